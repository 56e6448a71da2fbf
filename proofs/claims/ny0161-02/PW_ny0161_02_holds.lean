import PyProof.Rows.All
import Wide.All
import OpenK.AllK
import Wide.FinOn
import PySem.Challenge.RW_ny0161_02
open PySem PySem.W PyProof.Rows
set_option Elab.async false
-- text HD2
namespace Mine
set_option maxRecDepth 100000
set_option linter.unusedVariables false
theorem hdMore {tb : String → Option Builtin} {p : Program} {w : World} {n₀ : Nat} {ann : Option Value} {b : Nat} (k : Nat) : ∀ (n : Nat) (s : Shared) (t : Thread) (r : Flow × Shared × Code × Pos), segRun tb p w n₀ ann b n s t = some r → segRun tb p w n₀ ann b (n + k) s t = some r
  | 0, _, _, _, h => by cases h
  | n + 1, s, t, r, h => by
    rw [Nat.add_right_comm]
    unfold segRun at h ⊢
    cases he : endAt b t with
    | some f => rw [he] at h; exact h
    | none =>
      rw [he] at h
      cases hk : stepOk n₀ ann t with
      | false => rw [hk] at h; cases h
      | true =>
        rw [hk] at h
        cases hs : step (denote tb) p w s t with
        | halt o s₂ => rw [hs] at h; cases h
        | go s₂ t₂ => rw [hs] at h; exact hdMore k n s₂ t₂ r h
theorem hdMono {tb : String → Option Builtin} {p : Program} {w : World} {n₀ : Nat} {ann : Option Value} {b n N : Nat} (le : n ≤ N) {s : Shared} {t : Thread} {r : Flow × Shared × Code × Pos} (h : segRun tb p w n₀ ann b n s t = some r) : segRun tb p w n₀ ann b N s t = some r := by
  have := hdMore (N - n) n s t r h
  rwa [Nat.add_sub_cancel' le] at this
theorem hdBy (row : String) {P : World → Prop} {w : World} (hf : P (w.withFollow row false)) (ht : P (w.withFollow row true)) : P w := by
  have h : ∀ b, P (w.withFollow row b) := fun b => by cases b <;> assumption
  have := h (w.params.followText row)
  rwa [World.withFollow_self] at this
/-- the program of the law -/
abbrev hdProg : Program := PySem.Challenge.rw_ny0161_02.row.prog
/-- a statement of the top -/
noncomputable def hdStm (i : Nat) : Stmt := (hdProg.main.body[i]?).getD (.Pass ⟨0, 0, 0, 0⟩)
/-- the object that a def of the top leaves -/
noncomputable def hdFn (i : Nat) (c : Value) (g : Addr) (d kd doc pm cd : Value) : Obj := match hdStm i with
  | .FunctionDef n a b _ _ _ sc _ _ _ => { cls := c, dict := none, data := .func { name := n, qualname := n, params := a, body := .stmts b, scope := sc, globals := g, closure := [], defaults := d, kwdefaults := kd, doc := doc, pyModule := pm, annotations := none, code := cd, closureTuple := .none, builtins := 0 }, slots := #[] }
  | _ => default
noncomputable def hdView : Program := { hdProg with main := { hdProg.main with body := [hdStm 0, hdStm 1, hdStm 2, hdStm 3, hdStm 4, hdStm 5, hdStm 6, hdStm 7, hdStm 8, hdStm 9, hdStm 14, hdStm 15, hdStm 16, hdStm 22, hdStm 24, hdStm 25, hdStm 26, hdStm 27, hdStm 28, hdStm 29] } }
abbrev hdLoose : List PySem.Str := [Str.ofString "_QUOPRI_MAP", Str.ofString "_QUOPRI_HEADER_MAP", Str.ofString "_QUOPRI_BODY_MAP", Str.ofString "ascii_letters", Str.ofString "hexdigits", Str.ofString "_QUOPRI_BODY_ENCODE_MAP", Str.ofString "body_encode", Str.ofString "decode"]
abbrev hdLv : List (PySem.Str × WData) := [(Str.ofString "ascii_letters", WData.str ⟨#[97, 98, 99, 100, 101, 102, 103, 104, 105, 106, 107, 108, 109, 110, 111, 112, 113, 114, 115, 116, 117, 118, 119, 120, 121, 122, 65, 66, 67, 68, 69, 70, 71, 72, 73, 74, 75, 76, 77, 78, 79, 80, 81, 82, 83, 84, 85, 86, 87, 88, 89, 90]⟩), (Str.ofString "hexdigits", WData.str ⟨#[48, 49, 50, 51, 52, 53, 54, 55, 56, 57, 97, 98, 99, 100, 101, 102, 65, 66, 67, 68, 69, 70]⟩)]
noncomputable def hdK : Params → Frag := fun P =>
  (nat_lit 2, ⟨.none, none, .dict #[] 0, #[]⟩) ::
  (nat_lit 3, ⟨.type "dict", none, .dict #[⟨PyData.keyHash P (Str.ofString "__name__"), .str (Str.ofString "__name__") 165, .str (Str.ofString "law_ny0161_02") 1799⟩, ⟨PyData.keyHash P (Str.ofString "__doc__"), .str (Str.ofString "__doc__") 166, .none⟩, ⟨PyData.keyHash P (Str.ofString "__package__"), .str (Str.ofString "__package__") 167, .none⟩, ⟨PyData.keyHash P (Str.ofString "__loader__"), .str (Str.ofString "__loader__") 168, .builtin "__main__.__loader__#opaque"⟩, ⟨PyData.keyHash P (Str.ofString "__spec__"), .str (Str.ofString "__spec__") 169, .none⟩, ⟨PyData.keyHash P (Str.ofString "__annotations__"), .str (Str.ofString "__annotations__") 170, .ref 6⟩, ⟨PyData.keyHash P (Str.ofString "__builtins__"), .str (Str.ofString "__builtins__") 171, .ref 4⟩, ⟨PyData.keyHash P (Str.ofString "__file__"), .str (Str.ofString "__file__") 173, .str (Str.ofString "/claim/cut.py") 172⟩, ⟨PyData.keyHash P (Str.ofString "__cached__"), .str (Str.ofString "__cached__") 174, .none⟩, ⟨PyData.keyHash P (Str.ofString "CRLF"), .str (Str.ofString "CRLF") 188, .str (Str.ofString "\x0d\n") 187⟩, ⟨PyData.keyHash P (Str.ofString "NL"), .str (Str.ofString "NL") 190, .str (Str.ofString "\n") 189⟩, ⟨PyData.keyHash P (Str.ofString "_QUOPRI_MAP"), .str (Str.ofString "_QUOPRI_MAP") 1218, .ref 17⟩, ⟨PyData.keyHash P (Str.ofString "_QUOPRI_HEADER_MAP"), .str (Str.ofString "_QUOPRI_HEADER_MAP") 1219, .ref 22⟩, ⟨PyData.keyHash P (Str.ofString "_QUOPRI_BODY_MAP"), .str (Str.ofString "_QUOPRI_BODY_MAP") 1220, .ref 24⟩, ⟨PyData.keyHash P (Str.ofString "ascii_lowercase"), .str (Str.ofString "ascii_lowercase") 1222, .str (Str.ofString "abcdefghijklmnopqrstuvwxyz") 1221⟩, ⟨PyData.keyHash P (Str.ofString "ascii_uppercase"), .str (Str.ofString "ascii_uppercase") 1224, .str (Str.ofString "ABCDEFGHIJKLMNOPQRSTUVWXYZ") 1223⟩, ⟨PyData.keyHash P (Str.ofString "ascii_letters"), .str (Str.ofString "ascii_letters") 1226, .str (Str.ofString "abcdefghijklmnopqrstuvwxyzABCDEFGHIJKLMNOPQRSTUVWXYZ") 1225⟩, ⟨PyData.keyHash P (Str.ofString "digits"), .str (Str.ofString "digits") 1228, .str (Str.ofString "0123456789") 1227⟩, ⟨PyData.keyHash P (Str.ofString "hexdigits"), .str (Str.ofString "hexdigits") 1233, .str (Str.ofString "0123456789abcdefABCDEF") 1232⟩, ⟨PyData.keyHash P (Str.ofString "unquote"), .str (Str.ofString "unquote") 1739, .ref 37⟩, ⟨PyData.keyHash P (Str.ofString "quote"), .str (Str.ofString "quote") 1746, .ref 44⟩, ⟨PyData.keyHash P (Str.ofString "_QUOPRI_BODY_ENCODE_MAP"), .str (Str.ofString "_QUOPRI_BODY_ENCODE_MAP") 1747, .ref 46⟩, ⟨PyData.keyHash P (Str.ofString "body_encode"), .str (Str.ofString "body_encode") 1774, .ref 57⟩, ⟨PyData.keyHash P (Str.ofString "decode"), .str (Str.ofString "decode") 1787, .ref 65⟩, ⟨PyData.keyHash P (Str.ofString "_parse_varint"), .str (Str.ofString "_parse_varint") 1798, .ref 72⟩, ⟨PyData.keyHash P (Str.ofString "_law_octets"), .str (Str.ofString "_law_octets") 1814, .ref 79⟩, ⟨PyData.keyHash P (Str.ofString "_law_tokens"), .str (Str.ofString "_law_tokens") 1827, .ref 86⟩, ⟨PyData.keyHash P (Str.ofString "_law_left"), .str (Str.ofString "_law_left") 1833, .ref 91⟩, ⟨PyData.keyHash P (Str.ofString "_law_numbers"), .str (Str.ofString "_law_numbers") 1844, .ref 98⟩, ⟨PyData.keyHash P (Str.ofString "_law_read"), .str (Str.ofString "_law_read") 1850, .ref 103⟩, ⟨PyData.keyHash P (Str.ofString "law"), .str (Str.ofString "law") 1856, .ref 108⟩] 33, #[]⟩) ::
  (nat_lit 6, ⟨.type "dict", none, .dict #[] 0, #[]⟩) ::
  (nat_lit 17, ⟨.type "list", none, .seq (List.toArray (.str (Str.ofString "=00") 197 ::
 .str (Str.ofString "=01") 201 ::
 .str (Str.ofString "=02") 205 ::
 .str (Str.ofString "=03") 209 ::
 .str (Str.ofString "=04") 213 ::
 .str (Str.ofString "=05") 217 ::
 .str (Str.ofString "=06") 221 ::
 .str (Str.ofString "=07") 225 ::
 .str (Str.ofString "=08") 229 ::
 .str (Str.ofString "=09") 233 ::
 .str (Str.ofString "=0A") 237 ::
 .str (Str.ofString "=0B") 241 ::
 .str (Str.ofString "=0C") 245 ::
 .str (Str.ofString "=0D") 249 ::
 .str (Str.ofString "=0E") 253 ::
 .str (Str.ofString "=0F") 257 ::
 .str (Str.ofString "=10") 261 ::
 .str (Str.ofString "=11") 265 ::
 .str (Str.ofString "=12") 269 ::
 .str (Str.ofString "=13") 273 ::
 .str (Str.ofString "=14") 277 ::
 .str (Str.ofString "=15") 281 ::
 .str (Str.ofString "=16") 285 ::
 .str (Str.ofString "=17") 289 ::
 .str (Str.ofString "=18") 293 ::
 .str (Str.ofString "=19") 297 ::
 .str (Str.ofString "=1A") 301 ::
 .str (Str.ofString "=1B") 305 ::
 .str (Str.ofString "=1C") 309 ::
 .str (Str.ofString "=1D") 313 ::
 .str (Str.ofString "=1E") 317 ::
 .str (Str.ofString "=1F") 321 ::
 .str (Str.ofString "=20") 325 ::
 .str (Str.ofString "=21") 329 ::
 .str (Str.ofString "=22") 333 ::
 .str (Str.ofString "=23") 337 ::
 .str (Str.ofString "=24") 341 ::
 .str (Str.ofString "=25") 345 ::
 .str (Str.ofString "=26") 349 ::
 .str (Str.ofString "=27") 353 ::
 .str (Str.ofString "=28") 357 ::
 .str (Str.ofString "=29") 361 ::
 .str (Str.ofString "=2A") 365 ::
 .str (Str.ofString "=2B") 369 ::
 .str (Str.ofString "=2C") 373 ::
 .str (Str.ofString "=2D") 377 ::
 .str (Str.ofString "=2E") 381 ::
 .str (Str.ofString "=2F") 385 ::
 .str (Str.ofString "=30") 389 ::
 .str (Str.ofString "=31") 393 ::
 .str (Str.ofString "=32") 397 ::
 .str (Str.ofString "=33") 401 ::
 .str (Str.ofString "=34") 405 ::
 .str (Str.ofString "=35") 409 ::
 .str (Str.ofString "=36") 413 ::
 .str (Str.ofString "=37") 417 ::
 .str (Str.ofString "=38") 421 ::
 .str (Str.ofString "=39") 425 ::
 .str (Str.ofString "=3A") 429 ::
 .str (Str.ofString "=3B") 433 ::
 .str (Str.ofString "=3C") 437 ::
 .str (Str.ofString "=3D") 441 ::
 .str (Str.ofString "=3E") 445 ::
 .str (Str.ofString "=3F") 449 ::
 .str (Str.ofString "=40") 453 ::
 .str (Str.ofString "=41") 457 ::
 .str (Str.ofString "=42") 461 ::
 .str (Str.ofString "=43") 465 ::
 .str (Str.ofString "=44") 469 ::
 .str (Str.ofString "=45") 473 ::
 .str (Str.ofString "=46") 477 ::
 .str (Str.ofString "=47") 481 ::
 .str (Str.ofString "=48") 485 ::
 .str (Str.ofString "=49") 489 ::
 .str (Str.ofString "=4A") 493 ::
 .str (Str.ofString "=4B") 497 ::
 .str (Str.ofString "=4C") 501 ::
 .str (Str.ofString "=4D") 505 ::
 .str (Str.ofString "=4E") 509 ::
 .str (Str.ofString "=4F") 513 ::
 .str (Str.ofString "=50") 517 ::
 .str (Str.ofString "=51") 521 ::
 .str (Str.ofString "=52") 525 ::
 .str (Str.ofString "=53") 529 ::
 .str (Str.ofString "=54") 533 ::
 .str (Str.ofString "=55") 537 ::
 .str (Str.ofString "=56") 541 ::
 .str (Str.ofString "=57") 545 ::
 .str (Str.ofString "=58") 549 ::
 .str (Str.ofString "=59") 553 ::
 .str (Str.ofString "=5A") 557 ::
 .str (Str.ofString "=5B") 561 ::
 .str (Str.ofString "=5C") 565 ::
 .str (Str.ofString "=5D") 569 ::
 .str (Str.ofString "=5E") 573 ::
 .str (Str.ofString "=5F") 577 ::
 .str (Str.ofString "=60") 581 ::
 .str (Str.ofString "=61") 585 ::
 .str (Str.ofString "=62") 589 ::
 .str (Str.ofString "=63") 593 ::
 .str (Str.ofString "=64") 597 ::
 .str (Str.ofString "=65") 601 ::
 .str (Str.ofString "=66") 605 ::
 .str (Str.ofString "=67") 609 ::
 .str (Str.ofString "=68") 613 ::
 .str (Str.ofString "=69") 617 ::
 .str (Str.ofString "=6A") 621 ::
 .str (Str.ofString "=6B") 625 ::
 .str (Str.ofString "=6C") 629 ::
 .str (Str.ofString "=6D") 633 ::
 .str (Str.ofString "=6E") 637 ::
 .str (Str.ofString "=6F") 641 ::
 .str (Str.ofString "=70") 645 ::
 .str (Str.ofString "=71") 649 ::
 .str (Str.ofString "=72") 653 ::
 .str (Str.ofString "=73") 657 ::
 .str (Str.ofString "=74") 661 ::
 .str (Str.ofString "=75") 665 ::
 .str (Str.ofString "=76") 669 ::
 .str (Str.ofString "=77") 673 ::
 .str (Str.ofString "=78") 677 ::
 .str (Str.ofString "=79") 681 ::
 .str (Str.ofString "=7A") 685 ::
 .str (Str.ofString "=7B") 689 ::
 .str (Str.ofString "=7C") 693 ::
 .str (Str.ofString "=7D") 697 ::
 .str (Str.ofString "=7E") 701 ::
 .str (Str.ofString "=7F") 705 ::
 .str (Str.ofString "=80") 709 ::
 .str (Str.ofString "=81") 713 ::
 .str (Str.ofString "=82") 717 ::
 .str (Str.ofString "=83") 721 ::
 .str (Str.ofString "=84") 725 ::
 .str (Str.ofString "=85") 729 ::
 .str (Str.ofString "=86") 733 ::
 .str (Str.ofString "=87") 737 ::
 .str (Str.ofString "=88") 741 ::
 .str (Str.ofString "=89") 745 ::
 .str (Str.ofString "=8A") 749 ::
 .str (Str.ofString "=8B") 753 ::
 .str (Str.ofString "=8C") 757 ::
 .str (Str.ofString "=8D") 761 ::
 .str (Str.ofString "=8E") 765 ::
 .str (Str.ofString "=8F") 769 ::
 .str (Str.ofString "=90") 773 ::
 .str (Str.ofString "=91") 777 ::
 .str (Str.ofString "=92") 781 ::
 .str (Str.ofString "=93") 785 ::
 .str (Str.ofString "=94") 789 ::
 .str (Str.ofString "=95") 793 ::
 .str (Str.ofString "=96") 797 ::
 .str (Str.ofString "=97") 801 ::
 .str (Str.ofString "=98") 805 ::
 .str (Str.ofString "=99") 809 ::
 .str (Str.ofString "=9A") 813 ::
 .str (Str.ofString "=9B") 817 ::
 .str (Str.ofString "=9C") 821 ::
 .str (Str.ofString "=9D") 825 ::
 .str (Str.ofString "=9E") 829 ::
 .str (Str.ofString "=9F") 833 ::
 .str (Str.ofString "=A0") 837 ::
 .str (Str.ofString "=A1") 841 ::
 .str (Str.ofString "=A2") 845 ::
 .str (Str.ofString "=A3") 849 ::
 .str (Str.ofString "=A4") 853 ::
 .str (Str.ofString "=A5") 857 ::
 .str (Str.ofString "=A6") 861 ::
 .str (Str.ofString "=A7") 865 ::
 .str (Str.ofString "=A8") 869 ::
 .str (Str.ofString "=A9") 873 ::
 .str (Str.ofString "=AA") 877 ::
 .str (Str.ofString "=AB") 881 ::
 .str (Str.ofString "=AC") 885 ::
 .str (Str.ofString "=AD") 889 ::
 .str (Str.ofString "=AE") 893 ::
 .str (Str.ofString "=AF") 897 ::
 .str (Str.ofString "=B0") 901 ::
 .str (Str.ofString "=B1") 905 ::
 .str (Str.ofString "=B2") 909 ::
 .str (Str.ofString "=B3") 913 ::
 .str (Str.ofString "=B4") 917 ::
 .str (Str.ofString "=B5") 921 ::
 .str (Str.ofString "=B6") 925 ::
 .str (Str.ofString "=B7") 929 ::
 .str (Str.ofString "=B8") 933 ::
 .str (Str.ofString "=B9") 937 ::
 .str (Str.ofString "=BA") 941 ::
 .str (Str.ofString "=BB") 945 ::
 .str (Str.ofString "=BC") 949 ::
 .str (Str.ofString "=BD") 953 ::
 .str (Str.ofString "=BE") 957 ::
 .str (Str.ofString "=BF") 961 ::
 .str (Str.ofString "=C0") 965 ::
 .str (Str.ofString "=C1") 969 ::
 .str (Str.ofString "=C2") 973 ::
 .str (Str.ofString "=C3") 977 ::
 .str (Str.ofString "=C4") 981 ::
 .str (Str.ofString "=C5") 985 ::
 .str (Str.ofString "=C6") 989 ::
 .str (Str.ofString "=C7") 993 ::
 .str (Str.ofString "=C8") 997 ::
 .str (Str.ofString "=C9") 1001 ::
 .str (Str.ofString "=CA") 1005 ::
 .str (Str.ofString "=CB") 1009 ::
 .str (Str.ofString "=CC") 1013 ::
 .str (Str.ofString "=CD") 1017 ::
 .str (Str.ofString "=CE") 1021 ::
 .str (Str.ofString "=CF") 1025 ::
 .str (Str.ofString "=D0") 1029 ::
 .str (Str.ofString "=D1") 1033 ::
 .str (Str.ofString "=D2") 1037 ::
 .str (Str.ofString "=D3") 1041 ::
 .str (Str.ofString "=D4") 1045 ::
 .str (Str.ofString "=D5") 1049 ::
 .str (Str.ofString "=D6") 1053 ::
 .str (Str.ofString "=D7") 1057 ::
 .str (Str.ofString "=D8") 1061 ::
 .str (Str.ofString "=D9") 1065 ::
 .str (Str.ofString "=DA") 1069 ::
 .str (Str.ofString "=DB") 1073 ::
 .str (Str.ofString "=DC") 1077 ::
 .str (Str.ofString "=DD") 1081 ::
 .str (Str.ofString "=DE") 1085 ::
 .str (Str.ofString "=DF") 1089 ::
 .str (Str.ofString "=E0") 1093 ::
 .str (Str.ofString "=E1") 1097 ::
 .str (Str.ofString "=E2") 1101 ::
 .str (Str.ofString "=E3") 1105 ::
 .str (Str.ofString "=E4") 1109 ::
 .str (Str.ofString "=E5") 1113 ::
 .str (Str.ofString "=E6") 1117 ::
 .str (Str.ofString "=E7") 1121 ::
 .str (Str.ofString "=E8") 1125 ::
 .str (Str.ofString "=E9") 1129 ::
 .str (Str.ofString "=EA") 1133 ::
 .str (Str.ofString "=EB") 1137 ::
 .str (Str.ofString "=EC") 1141 ::
 .str (Str.ofString "=ED") 1145 ::
 .str (Str.ofString "=EE") 1149 ::
 .str (Str.ofString "=EF") 1153 ::
 .str (Str.ofString "=F0") 1157 ::
 .str (Str.ofString "=F1") 1161 ::
 .str (Str.ofString "=F2") 1165 ::
 .str (Str.ofString "=F3") 1169 ::
 .str (Str.ofString "=F4") 1173 ::
 .str (Str.ofString "=F5") 1177 ::
 .str (Str.ofString "=F6") 1181 ::
 .str (Str.ofString "=F7") 1185 ::
 .str (Str.ofString "=F8") 1189 ::
 .str (Str.ofString "=F9") 1193 ::
 .str (Str.ofString "=FA") 1197 ::
 .str (Str.ofString "=FB") 1201 ::
 .str (Str.ofString "=FC") 1205 ::
 .str (Str.ofString "=FD") 1209 ::
 .str (Str.ofString "=FE") 1213 ::
 .str (Str.ofString "=FF") 1217 ::
 [])) 256, #[]⟩) ::
  (nat_lit 22, ⟨.type "list", none, .seq (List.toArray (.str (Str.ofString "=00") 197 ::
 .str (Str.ofString "=01") 201 ::
 .str (Str.ofString "=02") 205 ::
 .str (Str.ofString "=03") 209 ::
 .str (Str.ofString "=04") 213 ::
 .str (Str.ofString "=05") 217 ::
 .str (Str.ofString "=06") 221 ::
 .str (Str.ofString "=07") 225 ::
 .str (Str.ofString "=08") 229 ::
 .str (Str.ofString "=09") 233 ::
 .str (Str.ofString "=0A") 237 ::
 .str (Str.ofString "=0B") 241 ::
 .str (Str.ofString "=0C") 245 ::
 .str (Str.ofString "=0D") 249 ::
 .str (Str.ofString "=0E") 253 ::
 .str (Str.ofString "=0F") 257 ::
 .str (Str.ofString "=10") 261 ::
 .str (Str.ofString "=11") 265 ::
 .str (Str.ofString "=12") 269 ::
 .str (Str.ofString "=13") 273 ::
 .str (Str.ofString "=14") 277 ::
 .str (Str.ofString "=15") 281 ::
 .str (Str.ofString "=16") 285 ::
 .str (Str.ofString "=17") 289 ::
 .str (Str.ofString "=18") 293 ::
 .str (Str.ofString "=19") 297 ::
 .str (Str.ofString "=1A") 301 ::
 .str (Str.ofString "=1B") 305 ::
 .str (Str.ofString "=1C") 309 ::
 .str (Str.ofString "=1D") 313 ::
 .str (Str.ofString "=1E") 317 ::
 .str (Str.ofString "=1F") 321 ::
 .str (Str.ofString "_") 1444 ::
 .str (Str.ofString "!") 1248 ::
 .str (Str.ofString "=22") 333 ::
 .str (Str.ofString "=23") 337 ::
 .str (Str.ofString "=24") 341 ::
 .str (Str.ofString "=25") 345 ::
 .str (Str.ofString "=26") 349 ::
 .str (Str.ofString "=27") 353 ::
 .str (Str.ofString "=28") 357 ::
 .str (Str.ofString "=29") 361 ::
 .str (Str.ofString "*") 1251 ::
 .str (Str.ofString "+") 1254 ::
 .str (Str.ofString "=2C") 373 ::
 .str (Str.ofString "-") 1245 ::
 .str (Str.ofString "=2E") 381 ::
 .str (Str.ofString "/") 1257 ::
 .str (Str.ofString "0") 1416 ::
 .str (Str.ofString "1") 1419 ::
 .str (Str.ofString "2") 1422 ::
 .str (Str.ofString "3") 1425 ::
 .str (Str.ofString "4") 1428 ::
 .str (Str.ofString "5") 1431 ::
 .str (Str.ofString "6") 1434 ::
 .str (Str.ofString "7") 1437 ::
 .str (Str.ofString "8") 1440 ::
 .str (Str.ofString "9") 1443 ::
 .str (Str.ofString "=3A") 429 ::
 .str (Str.ofString "=3B") 433 ::
 .str (Str.ofString "=3C") 437 ::
 .str (Str.ofString "=3D") 441 ::
 .str (Str.ofString "=3E") 445 ::
 .str (Str.ofString "=3F") 449 ::
 .str (Str.ofString "=40") 453 ::
 .str (Str.ofString "A") 1338 ::
 .str (Str.ofString "B") 1341 ::
 .str (Str.ofString "C") 1344 ::
 .str (Str.ofString "D") 1347 ::
 .str (Str.ofString "E") 1350 ::
 .str (Str.ofString "F") 1353 ::
 .str (Str.ofString "G") 1356 ::
 .str (Str.ofString "H") 1359 ::
 .str (Str.ofString "I") 1362 ::
 .str (Str.ofString "J") 1365 ::
 .str (Str.ofString "K") 1368 ::
 .str (Str.ofString "L") 1371 ::
 .str (Str.ofString "M") 1374 ::
 .str (Str.ofString "N") 1377 ::
 .str (Str.ofString "O") 1380 ::
 .str (Str.ofString "P") 1383 ::
 .str (Str.ofString "Q") 1386 ::
 .str (Str.ofString "R") 1389 ::
 .str (Str.ofString "S") 1392 ::
 .str (Str.ofString "T") 1395 ::
 .str (Str.ofString "U") 1398 ::
 .str (Str.ofString "V") 1401 ::
 .str (Str.ofString "W") 1404 ::
 .str (Str.ofString "X") 1407 ::
 .str (Str.ofString "Y") 1410 ::
 .str (Str.ofString "Z") 1413 ::
 .str (Str.ofString "=5B") 561 ::
 .str (Str.ofString "=5C") 565 ::
 .str (Str.ofString "=5D") 569 ::
 .str (Str.ofString "=5E") 573 ::
 .str (Str.ofString "=5F") 577 ::
 .str (Str.ofString "=60") 581 ::
 .str (Str.ofString "a") 1260 ::
 .str (Str.ofString "b") 1263 ::
 .str (Str.ofString "c") 1266 ::
 .str (Str.ofString "d") 1269 ::
 .str (Str.ofString "e") 1272 ::
 .str (Str.ofString "f") 1275 ::
 .str (Str.ofString "g") 1278 ::
 .str (Str.ofString "h") 1281 ::
 .str (Str.ofString "i") 1284 ::
 .str (Str.ofString "j") 1287 ::
 .str (Str.ofString "k") 1290 ::
 .str (Str.ofString "l") 1293 ::
 .str (Str.ofString "m") 1296 ::
 .str (Str.ofString "n") 1299 ::
 .str (Str.ofString "o") 1302 ::
 .str (Str.ofString "p") 1305 ::
 .str (Str.ofString "q") 1308 ::
 .str (Str.ofString "r") 1311 ::
 .str (Str.ofString "s") 1314 ::
 .str (Str.ofString "t") 1317 ::
 .str (Str.ofString "u") 1320 ::
 .str (Str.ofString "v") 1323 ::
 .str (Str.ofString "w") 1326 ::
 .str (Str.ofString "x") 1329 ::
 .str (Str.ofString "y") 1332 ::
 .str (Str.ofString "z") 1335 ::
 .str (Str.ofString "=7B") 689 ::
 .str (Str.ofString "=7C") 693 ::
 .str (Str.ofString "=7D") 697 ::
 .str (Str.ofString "=7E") 701 ::
 .str (Str.ofString "=7F") 705 ::
 .str (Str.ofString "=80") 709 ::
 .str (Str.ofString "=81") 713 ::
 .str (Str.ofString "=82") 717 ::
 .str (Str.ofString "=83") 721 ::
 .str (Str.ofString "=84") 725 ::
 .str (Str.ofString "=85") 729 ::
 .str (Str.ofString "=86") 733 ::
 .str (Str.ofString "=87") 737 ::
 .str (Str.ofString "=88") 741 ::
 .str (Str.ofString "=89") 745 ::
 .str (Str.ofString "=8A") 749 ::
 .str (Str.ofString "=8B") 753 ::
 .str (Str.ofString "=8C") 757 ::
 .str (Str.ofString "=8D") 761 ::
 .str (Str.ofString "=8E") 765 ::
 .str (Str.ofString "=8F") 769 ::
 .str (Str.ofString "=90") 773 ::
 .str (Str.ofString "=91") 777 ::
 .str (Str.ofString "=92") 781 ::
 .str (Str.ofString "=93") 785 ::
 .str (Str.ofString "=94") 789 ::
 .str (Str.ofString "=95") 793 ::
 .str (Str.ofString "=96") 797 ::
 .str (Str.ofString "=97") 801 ::
 .str (Str.ofString "=98") 805 ::
 .str (Str.ofString "=99") 809 ::
 .str (Str.ofString "=9A") 813 ::
 .str (Str.ofString "=9B") 817 ::
 .str (Str.ofString "=9C") 821 ::
 .str (Str.ofString "=9D") 825 ::
 .str (Str.ofString "=9E") 829 ::
 .str (Str.ofString "=9F") 833 ::
 .str (Str.ofString "=A0") 837 ::
 .str (Str.ofString "=A1") 841 ::
 .str (Str.ofString "=A2") 845 ::
 .str (Str.ofString "=A3") 849 ::
 .str (Str.ofString "=A4") 853 ::
 .str (Str.ofString "=A5") 857 ::
 .str (Str.ofString "=A6") 861 ::
 .str (Str.ofString "=A7") 865 ::
 .str (Str.ofString "=A8") 869 ::
 .str (Str.ofString "=A9") 873 ::
 .str (Str.ofString "=AA") 877 ::
 .str (Str.ofString "=AB") 881 ::
 .str (Str.ofString "=AC") 885 ::
 .str (Str.ofString "=AD") 889 ::
 .str (Str.ofString "=AE") 893 ::
 .str (Str.ofString "=AF") 897 ::
 .str (Str.ofString "=B0") 901 ::
 .str (Str.ofString "=B1") 905 ::
 .str (Str.ofString "=B2") 909 ::
 .str (Str.ofString "=B3") 913 ::
 .str (Str.ofString "=B4") 917 ::
 .str (Str.ofString "=B5") 921 ::
 .str (Str.ofString "=B6") 925 ::
 .str (Str.ofString "=B7") 929 ::
 .str (Str.ofString "=B8") 933 ::
 .str (Str.ofString "=B9") 937 ::
 .str (Str.ofString "=BA") 941 ::
 .str (Str.ofString "=BB") 945 ::
 .str (Str.ofString "=BC") 949 ::
 .str (Str.ofString "=BD") 953 ::
 .str (Str.ofString "=BE") 957 ::
 .str (Str.ofString "=BF") 961 ::
 .str (Str.ofString "=C0") 965 ::
 .str (Str.ofString "=C1") 969 ::
 .str (Str.ofString "=C2") 973 ::
 .str (Str.ofString "=C3") 977 ::
 .str (Str.ofString "=C4") 981 ::
 .str (Str.ofString "=C5") 985 ::
 .str (Str.ofString "=C6") 989 ::
 .str (Str.ofString "=C7") 993 ::
 .str (Str.ofString "=C8") 997 ::
 .str (Str.ofString "=C9") 1001 ::
 .str (Str.ofString "=CA") 1005 ::
 .str (Str.ofString "=CB") 1009 ::
 .str (Str.ofString "=CC") 1013 ::
 .str (Str.ofString "=CD") 1017 ::
 .str (Str.ofString "=CE") 1021 ::
 .str (Str.ofString "=CF") 1025 ::
 .str (Str.ofString "=D0") 1029 ::
 .str (Str.ofString "=D1") 1033 ::
 .str (Str.ofString "=D2") 1037 ::
 .str (Str.ofString "=D3") 1041 ::
 .str (Str.ofString "=D4") 1045 ::
 .str (Str.ofString "=D5") 1049 ::
 .str (Str.ofString "=D6") 1053 ::
 .str (Str.ofString "=D7") 1057 ::
 .str (Str.ofString "=D8") 1061 ::
 .str (Str.ofString "=D9") 1065 ::
 .str (Str.ofString "=DA") 1069 ::
 .str (Str.ofString "=DB") 1073 ::
 .str (Str.ofString "=DC") 1077 ::
 .str (Str.ofString "=DD") 1081 ::
 .str (Str.ofString "=DE") 1085 ::
 .str (Str.ofString "=DF") 1089 ::
 .str (Str.ofString "=E0") 1093 ::
 .str (Str.ofString "=E1") 1097 ::
 .str (Str.ofString "=E2") 1101 ::
 .str (Str.ofString "=E3") 1105 ::
 .str (Str.ofString "=E4") 1109 ::
 .str (Str.ofString "=E5") 1113 ::
 .str (Str.ofString "=E6") 1117 ::
 .str (Str.ofString "=E7") 1121 ::
 .str (Str.ofString "=E8") 1125 ::
 .str (Str.ofString "=E9") 1129 ::
 .str (Str.ofString "=EA") 1133 ::
 .str (Str.ofString "=EB") 1137 ::
 .str (Str.ofString "=EC") 1141 ::
 .str (Str.ofString "=ED") 1145 ::
 .str (Str.ofString "=EE") 1149 ::
 .str (Str.ofString "=EF") 1153 ::
 .str (Str.ofString "=F0") 1157 ::
 .str (Str.ofString "=F1") 1161 ::
 .str (Str.ofString "=F2") 1165 ::
 .str (Str.ofString "=F3") 1169 ::
 .str (Str.ofString "=F4") 1173 ::
 .str (Str.ofString "=F5") 1177 ::
 .str (Str.ofString "=F6") 1181 ::
 .str (Str.ofString "=F7") 1185 ::
 .str (Str.ofString "=F8") 1189 ::
 .str (Str.ofString "=F9") 1193 ::
 .str (Str.ofString "=FA") 1197 ::
 .str (Str.ofString "=FB") 1201 ::
 .str (Str.ofString "=FC") 1205 ::
 .str (Str.ofString "=FD") 1209 ::
 .str (Str.ofString "=FE") 1213 ::
 .str (Str.ofString "=FF") 1217 ::
 [])) 0, #[]⟩) ::
  (nat_lit 24, ⟨.type "list", none, .seq (List.toArray (.str (Str.ofString "=00") 197 ::
 .str (Str.ofString "=01") 201 ::
 .str (Str.ofString "=02") 205 ::
 .str (Str.ofString "=03") 209 ::
 .str (Str.ofString "=04") 213 ::
 .str (Str.ofString "=05") 217 ::
 .str (Str.ofString "=06") 221 ::
 .str (Str.ofString "=07") 225 ::
 .str (Str.ofString "=08") 229 ::
 .str (Str.ofString "\t") 1732 ::
 .str (Str.ofString "=0A") 237 ::
 .str (Str.ofString "=0B") 241 ::
 .str (Str.ofString "=0C") 245 ::
 .str (Str.ofString "=0D") 249 ::
 .str (Str.ofString "=0E") 253 ::
 .str (Str.ofString "=0F") 257 ::
 .str (Str.ofString "=10") 261 ::
 .str (Str.ofString "=11") 265 ::
 .str (Str.ofString "=12") 269 ::
 .str (Str.ofString "=13") 273 ::
 .str (Str.ofString "=14") 277 ::
 .str (Str.ofString "=15") 281 ::
 .str (Str.ofString "=16") 285 ::
 .str (Str.ofString "=17") 289 ::
 .str (Str.ofString "=18") 293 ::
 .str (Str.ofString "=19") 297 ::
 .str (Str.ofString "=1A") 301 ::
 .str (Str.ofString "=1B") 305 ::
 .str (Str.ofString "=1C") 309 ::
 .str (Str.ofString "=1D") 313 ::
 .str (Str.ofString "=1E") 317 ::
 .str (Str.ofString "=1F") 321 ::
 .str (Str.ofString " ") 1450 ::
 .str (Str.ofString "!") 1453 ::
 .str (Str.ofString "\"") 1456 ::
 .str (Str.ofString "#") 1459 ::
 .str (Str.ofString "$") 1462 ::
 .str (Str.ofString "%") 1465 ::
 .str (Str.ofString "&") 1468 ::
 .str (Str.ofString "'") 1471 ::
 .str (Str.ofString "(") 1474 ::
 .str (Str.ofString ")") 1477 ::
 .str (Str.ofString "*") 1480 ::
 .str (Str.ofString "+") 1483 ::
 .str (Str.ofString ",") 1486 ::
 .str (Str.ofString "-") 1489 ::
 .str (Str.ofString ".") 1492 ::
 .str (Str.ofString "/") 1495 ::
 .str (Str.ofString "0") 1498 ::
 .str (Str.ofString "1") 1501 ::
 .str (Str.ofString "2") 1504 ::
 .str (Str.ofString "3") 1507 ::
 .str (Str.ofString "4") 1510 ::
 .str (Str.ofString "5") 1513 ::
 .str (Str.ofString "6") 1516 ::
 .str (Str.ofString "7") 1519 ::
 .str (Str.ofString "8") 1522 ::
 .str (Str.ofString "9") 1525 ::
 .str (Str.ofString ":") 1528 ::
 .str (Str.ofString ";") 1531 ::
 .str (Str.ofString "<") 1534 ::
 .str (Str.ofString "=3D") 441 ::
 .str (Str.ofString ">") 1537 ::
 .str (Str.ofString "?") 1540 ::
 .str (Str.ofString "@") 1543 ::
 .str (Str.ofString "A") 1546 ::
 .str (Str.ofString "B") 1549 ::
 .str (Str.ofString "C") 1552 ::
 .str (Str.ofString "D") 1555 ::
 .str (Str.ofString "E") 1558 ::
 .str (Str.ofString "F") 1561 ::
 .str (Str.ofString "G") 1564 ::
 .str (Str.ofString "H") 1567 ::
 .str (Str.ofString "I") 1570 ::
 .str (Str.ofString "J") 1573 ::
 .str (Str.ofString "K") 1576 ::
 .str (Str.ofString "L") 1579 ::
 .str (Str.ofString "M") 1582 ::
 .str (Str.ofString "N") 1585 ::
 .str (Str.ofString "O") 1588 ::
 .str (Str.ofString "P") 1591 ::
 .str (Str.ofString "Q") 1594 ::
 .str (Str.ofString "R") 1597 ::
 .str (Str.ofString "S") 1600 ::
 .str (Str.ofString "T") 1603 ::
 .str (Str.ofString "U") 1606 ::
 .str (Str.ofString "V") 1609 ::
 .str (Str.ofString "W") 1612 ::
 .str (Str.ofString "X") 1615 ::
 .str (Str.ofString "Y") 1618 ::
 .str (Str.ofString "Z") 1621 ::
 .str (Str.ofString "[") 1624 ::
 .str (Str.ofString "\\") 1627 ::
 .str (Str.ofString "]") 1630 ::
 .str (Str.ofString "^") 1633 ::
 .str (Str.ofString "_") 1636 ::
 .str (Str.ofString "`") 1639 ::
 .str (Str.ofString "a") 1642 ::
 .str (Str.ofString "b") 1645 ::
 .str (Str.ofString "c") 1648 ::
 .str (Str.ofString "d") 1651 ::
 .str (Str.ofString "e") 1654 ::
 .str (Str.ofString "f") 1657 ::
 .str (Str.ofString "g") 1660 ::
 .str (Str.ofString "h") 1663 ::
 .str (Str.ofString "i") 1666 ::
 .str (Str.ofString "j") 1669 ::
 .str (Str.ofString "k") 1672 ::
 .str (Str.ofString "l") 1675 ::
 .str (Str.ofString "m") 1678 ::
 .str (Str.ofString "n") 1681 ::
 .str (Str.ofString "o") 1684 ::
 .str (Str.ofString "p") 1687 ::
 .str (Str.ofString "q") 1690 ::
 .str (Str.ofString "r") 1693 ::
 .str (Str.ofString "s") 1696 ::
 .str (Str.ofString "t") 1699 ::
 .str (Str.ofString "u") 1702 ::
 .str (Str.ofString "v") 1705 ::
 .str (Str.ofString "w") 1708 ::
 .str (Str.ofString "x") 1711 ::
 .str (Str.ofString "y") 1714 ::
 .str (Str.ofString "z") 1717 ::
 .str (Str.ofString "{") 1720 ::
 .str (Str.ofString "|") 1723 ::
 .str (Str.ofString "}") 1726 ::
 .str (Str.ofString "~") 1729 ::
 .str (Str.ofString "=7F") 705 ::
 .str (Str.ofString "=80") 709 ::
 .str (Str.ofString "=81") 713 ::
 .str (Str.ofString "=82") 717 ::
 .str (Str.ofString "=83") 721 ::
 .str (Str.ofString "=84") 725 ::
 .str (Str.ofString "=85") 729 ::
 .str (Str.ofString "=86") 733 ::
 .str (Str.ofString "=87") 737 ::
 .str (Str.ofString "=88") 741 ::
 .str (Str.ofString "=89") 745 ::
 .str (Str.ofString "=8A") 749 ::
 .str (Str.ofString "=8B") 753 ::
 .str (Str.ofString "=8C") 757 ::
 .str (Str.ofString "=8D") 761 ::
 .str (Str.ofString "=8E") 765 ::
 .str (Str.ofString "=8F") 769 ::
 .str (Str.ofString "=90") 773 ::
 .str (Str.ofString "=91") 777 ::
 .str (Str.ofString "=92") 781 ::
 .str (Str.ofString "=93") 785 ::
 .str (Str.ofString "=94") 789 ::
 .str (Str.ofString "=95") 793 ::
 .str (Str.ofString "=96") 797 ::
 .str (Str.ofString "=97") 801 ::
 .str (Str.ofString "=98") 805 ::
 .str (Str.ofString "=99") 809 ::
 .str (Str.ofString "=9A") 813 ::
 .str (Str.ofString "=9B") 817 ::
 .str (Str.ofString "=9C") 821 ::
 .str (Str.ofString "=9D") 825 ::
 .str (Str.ofString "=9E") 829 ::
 .str (Str.ofString "=9F") 833 ::
 .str (Str.ofString "=A0") 837 ::
 .str (Str.ofString "=A1") 841 ::
 .str (Str.ofString "=A2") 845 ::
 .str (Str.ofString "=A3") 849 ::
 .str (Str.ofString "=A4") 853 ::
 .str (Str.ofString "=A5") 857 ::
 .str (Str.ofString "=A6") 861 ::
 .str (Str.ofString "=A7") 865 ::
 .str (Str.ofString "=A8") 869 ::
 .str (Str.ofString "=A9") 873 ::
 .str (Str.ofString "=AA") 877 ::
 .str (Str.ofString "=AB") 881 ::
 .str (Str.ofString "=AC") 885 ::
 .str (Str.ofString "=AD") 889 ::
 .str (Str.ofString "=AE") 893 ::
 .str (Str.ofString "=AF") 897 ::
 .str (Str.ofString "=B0") 901 ::
 .str (Str.ofString "=B1") 905 ::
 .str (Str.ofString "=B2") 909 ::
 .str (Str.ofString "=B3") 913 ::
 .str (Str.ofString "=B4") 917 ::
 .str (Str.ofString "=B5") 921 ::
 .str (Str.ofString "=B6") 925 ::
 .str (Str.ofString "=B7") 929 ::
 .str (Str.ofString "=B8") 933 ::
 .str (Str.ofString "=B9") 937 ::
 .str (Str.ofString "=BA") 941 ::
 .str (Str.ofString "=BB") 945 ::
 .str (Str.ofString "=BC") 949 ::
 .str (Str.ofString "=BD") 953 ::
 .str (Str.ofString "=BE") 957 ::
 .str (Str.ofString "=BF") 961 ::
 .str (Str.ofString "=C0") 965 ::
 .str (Str.ofString "=C1") 969 ::
 .str (Str.ofString "=C2") 973 ::
 .str (Str.ofString "=C3") 977 ::
 .str (Str.ofString "=C4") 981 ::
 .str (Str.ofString "=C5") 985 ::
 .str (Str.ofString "=C6") 989 ::
 .str (Str.ofString "=C7") 993 ::
 .str (Str.ofString "=C8") 997 ::
 .str (Str.ofString "=C9") 1001 ::
 .str (Str.ofString "=CA") 1005 ::
 .str (Str.ofString "=CB") 1009 ::
 .str (Str.ofString "=CC") 1013 ::
 .str (Str.ofString "=CD") 1017 ::
 .str (Str.ofString "=CE") 1021 ::
 .str (Str.ofString "=CF") 1025 ::
 .str (Str.ofString "=D0") 1029 ::
 .str (Str.ofString "=D1") 1033 ::
 .str (Str.ofString "=D2") 1037 ::
 .str (Str.ofString "=D3") 1041 ::
 .str (Str.ofString "=D4") 1045 ::
 .str (Str.ofString "=D5") 1049 ::
 .str (Str.ofString "=D6") 1053 ::
 .str (Str.ofString "=D7") 1057 ::
 .str (Str.ofString "=D8") 1061 ::
 .str (Str.ofString "=D9") 1065 ::
 .str (Str.ofString "=DA") 1069 ::
 .str (Str.ofString "=DB") 1073 ::
 .str (Str.ofString "=DC") 1077 ::
 .str (Str.ofString "=DD") 1081 ::
 .str (Str.ofString "=DE") 1085 ::
 .str (Str.ofString "=DF") 1089 ::
 .str (Str.ofString "=E0") 1093 ::
 .str (Str.ofString "=E1") 1097 ::
 .str (Str.ofString "=E2") 1101 ::
 .str (Str.ofString "=E3") 1105 ::
 .str (Str.ofString "=E4") 1109 ::
 .str (Str.ofString "=E5") 1113 ::
 .str (Str.ofString "=E6") 1117 ::
 .str (Str.ofString "=E7") 1121 ::
 .str (Str.ofString "=E8") 1125 ::
 .str (Str.ofString "=E9") 1129 ::
 .str (Str.ofString "=EA") 1133 ::
 .str (Str.ofString "=EB") 1137 ::
 .str (Str.ofString "=EC") 1141 ::
 .str (Str.ofString "=ED") 1145 ::
 .str (Str.ofString "=EE") 1149 ::
 .str (Str.ofString "=EF") 1153 ::
 .str (Str.ofString "=F0") 1157 ::
 .str (Str.ofString "=F1") 1161 ::
 .str (Str.ofString "=F2") 1165 ::
 .str (Str.ofString "=F3") 1169 ::
 .str (Str.ofString "=F4") 1173 ::
 .str (Str.ofString "=F5") 1177 ::
 .str (Str.ofString "=F6") 1181 ::
 .str (Str.ofString "=F7") 1185 ::
 .str (Str.ofString "=F8") 1189 ::
 .str (Str.ofString "=F9") 1193 ::
 .str (Str.ofString "=FA") 1197 ::
 .str (Str.ofString "=FB") 1201 ::
 .str (Str.ofString "=FC") 1205 ::
 .str (Str.ofString "=FD") 1209 ::
 .str (Str.ofString "=FE") 1213 ::
 .str (Str.ofString "=FF") 1217 ::
 [])) 0, #[]⟩) ::
  (nat_lit 31, ⟨.type "tuple", none, .seq #[] 0, #[]⟩) ::
  (nat_lit 33, ⟨.type "tuple", none, .seq #[.str (Str.ofString "s") 1736] 0, #[]⟩) ::
  (nat_lit 34, ⟨.type "tuple", none, .seq #[] 0, #[]⟩) ::
  (nat_lit 36, ⟨.type "code", none, .fields #[.str (Str.ofString "unquote") 1733, .str (Str.ofString "unquote") 1734, .str (Str.ofString "/claim/cut.py") 1735, .int 17 0, .int 1 0, .int 0 0, .int 0 0, .int 3 0, .ref 31, .bool true, .int 181 0, .ref 32, .none, .ref 33, .ref 34, .ref 35, .int 1737 0, .int 17 0, .str (Str.ofString "/claim/cut.py") 1738], #[]⟩) ::
  (nat_lit 37, hdFn 14 (.type "function") 3 (.none) (.none) (.none) (.str (Str.ofString "cpy313.email.quoprimime") 1234) (.ref 36)) ::
  (nat_lit 38, ⟨.type "tuple", none, .seq #[] 0, #[]⟩) ::
  (nat_lit 40, ⟨.type "tuple", none, .seq #[.str (Str.ofString "c") 1743] 0, #[]⟩) ::
  (nat_lit 41, ⟨.type "tuple", none, .seq #[] 0, #[]⟩) ::
  (nat_lit 43, ⟨.type "code", none, .fields #[.str (Str.ofString "quote") 1740, .str (Str.ofString "quote") 1741, .str (Str.ofString "/claim/cut.py") 1742, .int 19 0, .int 1 0, .int 0 0, .int 0 0, .int 3 0, .ref 38, .bool true, .int 181 0, .ref 39, .none, .ref 40, .ref 41, .ref 42, .int 1744 0, .int 19 0, .str (Str.ofString "/claim/cut.py") 1745], #[]⟩) ::
  (nat_lit 44, hdFn 15 (.type "function") 3 (.none) (.none) (.none) (.str (Str.ofString "cpy313.email.quoprimime") 1234) (.ref 43)) ::
  (nat_lit 46, ⟨.type "list", none, .seq (List.toArray (.str (Str.ofString "=00") 197 ::
 .str (Str.ofString "=01") 201 ::
 .str (Str.ofString "=02") 205 ::
 .str (Str.ofString "=03") 209 ::
 .str (Str.ofString "=04") 213 ::
 .str (Str.ofString "=05") 217 ::
 .str (Str.ofString "=06") 221 ::
 .str (Str.ofString "=07") 225 ::
 .str (Str.ofString "=08") 229 ::
 .str (Str.ofString "\t") 1732 ::
 .str (Str.ofString "\n") 1754 ::
 .str (Str.ofString "=0B") 241 ::
 .str (Str.ofString "=0C") 245 ::
 .str (Str.ofString "\x0d") 1751 ::
 .str (Str.ofString "=0E") 253 ::
 .str (Str.ofString "=0F") 257 ::
 .str (Str.ofString "=10") 261 ::
 .str (Str.ofString "=11") 265 ::
 .str (Str.ofString "=12") 269 ::
 .str (Str.ofString "=13") 273 ::
 .str (Str.ofString "=14") 277 ::
 .str (Str.ofString "=15") 281 ::
 .str (Str.ofString "=16") 285 ::
 .str (Str.ofString "=17") 289 ::
 .str (Str.ofString "=18") 293 ::
 .str (Str.ofString "=19") 297 ::
 .str (Str.ofString "=1A") 301 ::
 .str (Str.ofString "=1B") 305 ::
 .str (Str.ofString "=1C") 309 ::
 .str (Str.ofString "=1D") 313 ::
 .str (Str.ofString "=1E") 317 ::
 .str (Str.ofString "=1F") 321 ::
 .str (Str.ofString " ") 1450 ::
 .str (Str.ofString "!") 1453 ::
 .str (Str.ofString "\"") 1456 ::
 .str (Str.ofString "#") 1459 ::
 .str (Str.ofString "$") 1462 ::
 .str (Str.ofString "%") 1465 ::
 .str (Str.ofString "&") 1468 ::
 .str (Str.ofString "'") 1471 ::
 .str (Str.ofString "(") 1474 ::
 .str (Str.ofString ")") 1477 ::
 .str (Str.ofString "*") 1480 ::
 .str (Str.ofString "+") 1483 ::
 .str (Str.ofString ",") 1486 ::
 .str (Str.ofString "-") 1489 ::
 .str (Str.ofString ".") 1492 ::
 .str (Str.ofString "/") 1495 ::
 .str (Str.ofString "0") 1498 ::
 .str (Str.ofString "1") 1501 ::
 .str (Str.ofString "2") 1504 ::
 .str (Str.ofString "3") 1507 ::
 .str (Str.ofString "4") 1510 ::
 .str (Str.ofString "5") 1513 ::
 .str (Str.ofString "6") 1516 ::
 .str (Str.ofString "7") 1519 ::
 .str (Str.ofString "8") 1522 ::
 .str (Str.ofString "9") 1525 ::
 .str (Str.ofString ":") 1528 ::
 .str (Str.ofString ";") 1531 ::
 .str (Str.ofString "<") 1534 ::
 .str (Str.ofString "=3D") 441 ::
 .str (Str.ofString ">") 1537 ::
 .str (Str.ofString "?") 1540 ::
 .str (Str.ofString "@") 1543 ::
 .str (Str.ofString "A") 1546 ::
 .str (Str.ofString "B") 1549 ::
 .str (Str.ofString "C") 1552 ::
 .str (Str.ofString "D") 1555 ::
 .str (Str.ofString "E") 1558 ::
 .str (Str.ofString "F") 1561 ::
 .str (Str.ofString "G") 1564 ::
 .str (Str.ofString "H") 1567 ::
 .str (Str.ofString "I") 1570 ::
 .str (Str.ofString "J") 1573 ::
 .str (Str.ofString "K") 1576 ::
 .str (Str.ofString "L") 1579 ::
 .str (Str.ofString "M") 1582 ::
 .str (Str.ofString "N") 1585 ::
 .str (Str.ofString "O") 1588 ::
 .str (Str.ofString "P") 1591 ::
 .str (Str.ofString "Q") 1594 ::
 .str (Str.ofString "R") 1597 ::
 .str (Str.ofString "S") 1600 ::
 .str (Str.ofString "T") 1603 ::
 .str (Str.ofString "U") 1606 ::
 .str (Str.ofString "V") 1609 ::
 .str (Str.ofString "W") 1612 ::
 .str (Str.ofString "X") 1615 ::
 .str (Str.ofString "Y") 1618 ::
 .str (Str.ofString "Z") 1621 ::
 .str (Str.ofString "[") 1624 ::
 .str (Str.ofString "\\") 1627 ::
 .str (Str.ofString "]") 1630 ::
 .str (Str.ofString "^") 1633 ::
 .str (Str.ofString "_") 1636 ::
 .str (Str.ofString "`") 1639 ::
 .str (Str.ofString "a") 1642 ::
 .str (Str.ofString "b") 1645 ::
 .str (Str.ofString "c") 1648 ::
 .str (Str.ofString "d") 1651 ::
 .str (Str.ofString "e") 1654 ::
 .str (Str.ofString "f") 1657 ::
 .str (Str.ofString "g") 1660 ::
 .str (Str.ofString "h") 1663 ::
 .str (Str.ofString "i") 1666 ::
 .str (Str.ofString "j") 1669 ::
 .str (Str.ofString "k") 1672 ::
 .str (Str.ofString "l") 1675 ::
 .str (Str.ofString "m") 1678 ::
 .str (Str.ofString "n") 1681 ::
 .str (Str.ofString "o") 1684 ::
 .str (Str.ofString "p") 1687 ::
 .str (Str.ofString "q") 1690 ::
 .str (Str.ofString "r") 1693 ::
 .str (Str.ofString "s") 1696 ::
 .str (Str.ofString "t") 1699 ::
 .str (Str.ofString "u") 1702 ::
 .str (Str.ofString "v") 1705 ::
 .str (Str.ofString "w") 1708 ::
 .str (Str.ofString "x") 1711 ::
 .str (Str.ofString "y") 1714 ::
 .str (Str.ofString "z") 1717 ::
 .str (Str.ofString "{") 1720 ::
 .str (Str.ofString "|") 1723 ::
 .str (Str.ofString "}") 1726 ::
 .str (Str.ofString "~") 1729 ::
 .str (Str.ofString "=7F") 705 ::
 .str (Str.ofString "=80") 709 ::
 .str (Str.ofString "=81") 713 ::
 .str (Str.ofString "=82") 717 ::
 .str (Str.ofString "=83") 721 ::
 .str (Str.ofString "=84") 725 ::
 .str (Str.ofString "=85") 729 ::
 .str (Str.ofString "=86") 733 ::
 .str (Str.ofString "=87") 737 ::
 .str (Str.ofString "=88") 741 ::
 .str (Str.ofString "=89") 745 ::
 .str (Str.ofString "=8A") 749 ::
 .str (Str.ofString "=8B") 753 ::
 .str (Str.ofString "=8C") 757 ::
 .str (Str.ofString "=8D") 761 ::
 .str (Str.ofString "=8E") 765 ::
 .str (Str.ofString "=8F") 769 ::
 .str (Str.ofString "=90") 773 ::
 .str (Str.ofString "=91") 777 ::
 .str (Str.ofString "=92") 781 ::
 .str (Str.ofString "=93") 785 ::
 .str (Str.ofString "=94") 789 ::
 .str (Str.ofString "=95") 793 ::
 .str (Str.ofString "=96") 797 ::
 .str (Str.ofString "=97") 801 ::
 .str (Str.ofString "=98") 805 ::
 .str (Str.ofString "=99") 809 ::
 .str (Str.ofString "=9A") 813 ::
 .str (Str.ofString "=9B") 817 ::
 .str (Str.ofString "=9C") 821 ::
 .str (Str.ofString "=9D") 825 ::
 .str (Str.ofString "=9E") 829 ::
 .str (Str.ofString "=9F") 833 ::
 .str (Str.ofString "=A0") 837 ::
 .str (Str.ofString "=A1") 841 ::
 .str (Str.ofString "=A2") 845 ::
 .str (Str.ofString "=A3") 849 ::
 .str (Str.ofString "=A4") 853 ::
 .str (Str.ofString "=A5") 857 ::
 .str (Str.ofString "=A6") 861 ::
 .str (Str.ofString "=A7") 865 ::
 .str (Str.ofString "=A8") 869 ::
 .str (Str.ofString "=A9") 873 ::
 .str (Str.ofString "=AA") 877 ::
 .str (Str.ofString "=AB") 881 ::
 .str (Str.ofString "=AC") 885 ::
 .str (Str.ofString "=AD") 889 ::
 .str (Str.ofString "=AE") 893 ::
 .str (Str.ofString "=AF") 897 ::
 .str (Str.ofString "=B0") 901 ::
 .str (Str.ofString "=B1") 905 ::
 .str (Str.ofString "=B2") 909 ::
 .str (Str.ofString "=B3") 913 ::
 .str (Str.ofString "=B4") 917 ::
 .str (Str.ofString "=B5") 921 ::
 .str (Str.ofString "=B6") 925 ::
 .str (Str.ofString "=B7") 929 ::
 .str (Str.ofString "=B8") 933 ::
 .str (Str.ofString "=B9") 937 ::
 .str (Str.ofString "=BA") 941 ::
 .str (Str.ofString "=BB") 945 ::
 .str (Str.ofString "=BC") 949 ::
 .str (Str.ofString "=BD") 953 ::
 .str (Str.ofString "=BE") 957 ::
 .str (Str.ofString "=BF") 961 ::
 .str (Str.ofString "=C0") 965 ::
 .str (Str.ofString "=C1") 969 ::
 .str (Str.ofString "=C2") 973 ::
 .str (Str.ofString "=C3") 977 ::
 .str (Str.ofString "=C4") 981 ::
 .str (Str.ofString "=C5") 985 ::
 .str (Str.ofString "=C6") 989 ::
 .str (Str.ofString "=C7") 993 ::
 .str (Str.ofString "=C8") 997 ::
 .str (Str.ofString "=C9") 1001 ::
 .str (Str.ofString "=CA") 1005 ::
 .str (Str.ofString "=CB") 1009 ::
 .str (Str.ofString "=CC") 1013 ::
 .str (Str.ofString "=CD") 1017 ::
 .str (Str.ofString "=CE") 1021 ::
 .str (Str.ofString "=CF") 1025 ::
 .str (Str.ofString "=D0") 1029 ::
 .str (Str.ofString "=D1") 1033 ::
 .str (Str.ofString "=D2") 1037 ::
 .str (Str.ofString "=D3") 1041 ::
 .str (Str.ofString "=D4") 1045 ::
 .str (Str.ofString "=D5") 1049 ::
 .str (Str.ofString "=D6") 1053 ::
 .str (Str.ofString "=D7") 1057 ::
 .str (Str.ofString "=D8") 1061 ::
 .str (Str.ofString "=D9") 1065 ::
 .str (Str.ofString "=DA") 1069 ::
 .str (Str.ofString "=DB") 1073 ::
 .str (Str.ofString "=DC") 1077 ::
 .str (Str.ofString "=DD") 1081 ::
 .str (Str.ofString "=DE") 1085 ::
 .str (Str.ofString "=DF") 1089 ::
 .str (Str.ofString "=E0") 1093 ::
 .str (Str.ofString "=E1") 1097 ::
 .str (Str.ofString "=E2") 1101 ::
 .str (Str.ofString "=E3") 1105 ::
 .str (Str.ofString "=E4") 1109 ::
 .str (Str.ofString "=E5") 1113 ::
 .str (Str.ofString "=E6") 1117 ::
 .str (Str.ofString "=E7") 1121 ::
 .str (Str.ofString "=E8") 1125 ::
 .str (Str.ofString "=E9") 1129 ::
 .str (Str.ofString "=EA") 1133 ::
 .str (Str.ofString "=EB") 1137 ::
 .str (Str.ofString "=EC") 1141 ::
 .str (Str.ofString "=ED") 1145 ::
 .str (Str.ofString "=EE") 1149 ::
 .str (Str.ofString "=EF") 1153 ::
 .str (Str.ofString "=F0") 1157 ::
 .str (Str.ofString "=F1") 1161 ::
 .str (Str.ofString "=F2") 1165 ::
 .str (Str.ofString "=F3") 1169 ::
 .str (Str.ofString "=F4") 1173 ::
 .str (Str.ofString "=F5") 1177 ::
 .str (Str.ofString "=F6") 1181 ::
 .str (Str.ofString "=F7") 1185 ::
 .str (Str.ofString "=F8") 1189 ::
 .str (Str.ofString "=F9") 1193 ::
 .str (Str.ofString "=FA") 1197 ::
 .str (Str.ofString "=FB") 1201 ::
 .str (Str.ofString "=FC") 1205 ::
 .str (Str.ofString "=FD") 1209 ::
 .str (Str.ofString "=FE") 1213 ::
 .str (Str.ofString "=FF") 1217 ::
 [])) 0, #[]⟩) ::
  (nat_lit 50, ⟨.type "tuple", none, .seq #[.int 76 1755, .str (Str.ofString "\n") 189] 0, #[]⟩) ::
  (nat_lit 51, ⟨.type "tuple", none, .seq #[] 0, #[]⟩) ::
  (nat_lit 53, ⟨.type "tuple", none, .seq #[.str (Str.ofString "body") 1759, .str (Str.ofString "maxlinelen") 1760, .str (Str.ofString "eol") 1761, .str (Str.ofString "soft_break") 1762, .str (Str.ofString "maxlinelen1") 1763, .str (Str.ofString "encoded_body") 1764, .str (Str.ofString "append") 1765, .str (Str.ofString "line") 1766, .str (Str.ofString "start") 1767, .str (Str.ofString "laststart") 1768, .str (Str.ofString "stop") 1769, .str (Str.ofString "room") 1770, .str (Str.ofString "q") 1771] 0, #[]⟩) ::
  (nat_lit 54, ⟨.type "tuple", none, .seq #[] 0, #[]⟩) ::
  (nat_lit 56, ⟨.type "code", none, .fields #[.str (Str.ofString "body_encode") 1756, .str (Str.ofString "body_encode") 1757, .str (Str.ofString "/claim/cut.py") 1758, .int 25 0, .int 3 0, .int 0 0, .int 0 0, .int 3 0, .ref 51, .bool true, .int 181 0, .ref 52, .none, .ref 53, .ref 54, .ref 55, .int 1772 0, .int 25 0, .str (Str.ofString "/claim/cut.py") 1773], #[]⟩) ::
  (nat_lit 57, hdFn 19 (.type "function") 3 (.ref 50) (.none) (.none) (.str (Str.ofString "cpy313.email.quoprimime") 1234) (.ref 56)) ::
  (nat_lit 58, ⟨.type "tuple", none, .seq #[.str (Str.ofString "\n") 189] 0, #[]⟩) ::
  (nat_lit 59, ⟨.type "tuple", none, .seq #[] 0, #[]⟩) ::
  (nat_lit 61, ⟨.type "tuple", none, .seq #[.str (Str.ofString "encoded") 1778, .str (Str.ofString "eol") 1779, .str (Str.ofString "decoded") 1780, .str (Str.ofString "line") 1781, .str (Str.ofString "i") 1782, .str (Str.ofString "n") 1783, .str (Str.ofString "c") 1784] 0, #[]⟩) ::
  (nat_lit 62, ⟨.type "tuple", none, .seq #[] 0, #[]⟩) ::
  (nat_lit 64, ⟨.type "code", none, .fields #[.str (Str.ofString "decode") 1775, .str (Str.ofString "decode") 1776, .str (Str.ofString "/claim/cut.py") 1777, .int 63 0, .int 2 0, .int 0 0, .int 0 0, .int 3 0, .ref 59, .bool true, .int 181 0, .ref 60, .none, .ref 61, .ref 62, .ref 63, .int 1785 0, .int 63 0, .str (Str.ofString "/claim/cut.py") 1786], #[]⟩) ::
  (nat_lit 65, hdFn 20 (.type "function") 3 (.ref 58) (.none) (.none) (.str (Str.ofString "cpy313.email.quoprimime") 1234) (.ref 64)) ::
  (nat_lit 66, ⟨.type "tuple", none, .seq #[] 0, #[]⟩) ::
  (nat_lit 68, ⟨.type "tuple", none, .seq #[.str (Str.ofString "iterator") 1793, .str (Str.ofString "b") 1794, .str (Str.ofString "val") 1795] 0, #[]⟩) ::
  (nat_lit 69, ⟨.type "tuple", none, .seq #[] 0, #[]⟩) ::
  (nat_lit 71, ⟨.type "code", none, .fields #[.str (Str.ofString "_parse_varint") 1790, .str (Str.ofString "_parse_varint") 1791, .str (Str.ofString "/claim/cut.py") 1792, .int 94 0, .int 1 0, .int 0 0, .int 0 0, .int 3 0, .ref 66, .bool true, .int 181 0, .ref 67, .none, .ref 68, .ref 69, .ref 70, .int 1796 0, .int 94 0, .str (Str.ofString "/claim/cut.py") 1797], #[]⟩) ::
  (nat_lit 72, hdFn 22 (.type "function") 3 (.none) (.none) (.none) (.str (Str.ofString "cpy313.dis") 1788) (.ref 71)) ::
  (nat_lit 73, ⟨.type "tuple", none, .seq #[] 0, #[]⟩) ::
  (nat_lit 75, ⟨.type "tuple", none, .seq #[.str (Str.ofString "script") 1804, .str (Str.ofString "octets") 1805, .str (Str.ofString "x") 1806, .str (Str.ofString "rest") 1807, .str (Str.ofString "width") 1808, .str (Str.ofString "last") 1809, .str (Str.ofString "high") 1810, .str (Str.ofString "k") 1811] 0, #[]⟩) ::
  (nat_lit 76, ⟨.type "tuple", none, .seq #[] 0, #[]⟩) ::
  (nat_lit 78, ⟨.type "code", none, .fields #[.str (Str.ofString "_law_octets") 1801, .str (Str.ofString "_law_octets") 1802, .str (Str.ofString "/claim/cut.py") 1803, .int 103 0, .int 1 0, .int 0 0, .int 0 0, .int 3 0, .ref 73, .bool true, .int 181 0, .ref 74, .none, .ref 75, .ref 76, .ref 77, .int 1812 0, .int 103 0, .str (Str.ofString "/claim/cut.py") 1813], #[]⟩) ::
  (nat_lit 79, hdFn 24 (.type "function") 3 (.none) (.none) (.none) (.str (Str.ofString "law_ny0161_02") 1799) (.ref 78)) ::
  (nat_lit 80, ⟨.type "tuple", none, .seq #[] 0, #[]⟩) ::
  (nat_lit 82, ⟨.type "tuple", none, .seq #[.str (Str.ofString "letter") 1818, .str (Str.ofString "ends") 1819, .str (Str.ofString "figures") 1820, .str (Str.ofString "tokens") 1821, .str (Str.ofString "k") 1822, .str (Str.ofString "size") 1823, .str (Str.ofString "octets") 1824] 0, #[]⟩) ::
  (nat_lit 83, ⟨.type "tuple", none, .seq #[] 0, #[]⟩) ::
  (nat_lit 85, ⟨.type "code", none, .fields #[.str (Str.ofString "_law_tokens") 1815, .str (Str.ofString "_law_tokens") 1816, .str (Str.ofString "/claim/cut.py") 1817, .int 115 0, .int 2 0, .int 0 0, .int 0 0, .int 3 0, .ref 80, .bool true, .int 181 0, .ref 81, .none, .ref 82, .ref 83, .ref 84, .int 1825 0, .int 115 0, .str (Str.ofString "/claim/cut.py") 1826], #[]⟩) ::
  (nat_lit 86, hdFn 25 (.type "function") 3 (.none) (.none) (.none) (.str (Str.ofString "law_ny0161_02") 1799) (.ref 85)) ::
  (nat_lit 87, ⟨.type "tuple", none, .seq #[] 0, #[]⟩) ::
  (nat_lit 90, ⟨.type "code", none, .fields #[.str (Str.ofString "_law_left") 1828, .str (Str.ofString "_law_left") 1829, .str (Str.ofString "/claim/cut.py") 1830, .int 131 0, .int 3 0, .int 0 0, .int 0 0, .int 3 0, .ref 87, .bool true, .int 181 0, .ref 88, .none, .none, .none, .ref 89, .int 1831 0, .int 131 0, .str (Str.ofString "/claim/cut.py") 1832], #[]⟩) ::
  (nat_lit 91, hdFn 26 (.type "function") 3 (.none) (.none) (.none) (.str (Str.ofString "law_ny0161_02") 1799) (.ref 90)) ::
  (nat_lit 92, ⟨.type "tuple", none, .seq #[] 0, #[]⟩) ::
  (nat_lit 94, ⟨.type "tuple", none, .seq #[.str (Str.ofString "octets") 1837, .str (Str.ofString "numbers") 1838, .str (Str.ofString "value") 1839, .str (Str.ofString "worth") 1840, .str (Str.ofString "octet") 1841] 0, #[]⟩) ::
  (nat_lit 95, ⟨.type "tuple", none, .seq #[] 0, #[]⟩) ::
  (nat_lit 97, ⟨.type "code", none, .fields #[.str (Str.ofString "_law_numbers") 1834, .str (Str.ofString "_law_numbers") 1835, .str (Str.ofString "/claim/cut.py") 1836, .int 148 0, .int 1 0, .int 0 0, .int 0 0, .int 3 0, .ref 92, .bool true, .int 181 0, .ref 93, .none, .ref 94, .ref 95, .ref 96, .int 1842 0, .int 148 0, .str (Str.ofString "/claim/cut.py") 1843], #[]⟩) ::
  (nat_lit 98, hdFn 27 (.type "function") 3 (.none) (.none) (.none) (.str (Str.ofString "law_ny0161_02") 1799) (.ref 97)) ::
  (nat_lit 99, ⟨.type "tuple", none, .seq #[] 0, #[]⟩) ::
  (nat_lit 102, ⟨.type "code", none, .fields #[.str (Str.ofString "_law_read") 1845, .str (Str.ofString "_law_read") 1846, .str (Str.ofString "/claim/cut.py") 1847, .int 162 0, .int 1 0, .int 0 0, .int 0 0, .int 3 0, .ref 99, .bool true, .int 181 0, .ref 100, .none, .none, .none, .ref 101, .int 1848 0, .int 162 0, .str (Str.ofString "/claim/cut.py") 1849], #[]⟩) ::
  (nat_lit 103, hdFn 28 (.type "function") 3 (.none) (.none) (.none) (.str (Str.ofString "law_ny0161_02") 1799) (.ref 102)) ::
  (nat_lit 104, ⟨.type "tuple", none, .seq #[] 0, #[]⟩) ::
  (nat_lit 107, ⟨.type "code", none, .fields #[.str (Str.ofString "law") 1851, .str (Str.ofString "law") 1852, .str (Str.ofString "/claim/cut.py") 1853, .int 170 0, .int 1 0, .int 0 0, .int 0 0, .int 3 0, .ref 104, .bool true, .int 181 0, .ref 105, .none, .none, .none, .ref 106, .int 1854 0, .int 170 0, .str (Str.ofString "/claim/cut.py") 1855], #[]⟩) ::
  (nat_lit 108, hdFn 29 (.type "function") 3 (.none) (.none) (.none) (.str (Str.ofString "law_ny0161_02") 1799) (.ref 107)) :: []
abbrev hdAs : List Addr := [2, 3, 6, 17, 22, 24, 31, 33, 34, 36, 37, 38, 40, 41, 43, 44, 46, 50, 51, 53, 54, 56, 57, 58, 59, 61, 62, 64, 65, 66, 68, 69, 71, 72, 73, 75, 76, 78, 79, 80, 82, 83, 85, 86, 87, 90, 91, 92, 94, 95, 97, 98, 99, 102, 103, 104, 107, 108]
noncomputable def hdEnv : Env := { scope := hdProg.main.scope, locals := mainNs, globals := mainNs, cells := [], code := .ref 13, frame := some 14 }
noncomputable abbrev hdB : List Stmt := behindTheImports hdProg
noncomputable abbrev hdC : Code := .body hdB hdEnv
noncomputable abbrev hdF : List Frame := [topFrame ⟨0, 0, 0, 0⟩]
noncomputable abbrev hdSts (i n : Nat) : List Stmt := (hdB.drop i).take n
noncomputable abbrev hdTh (l : List Stmt) (p : Pos) : Thread := ⟨(PySem.W.Fast.tw12563942051412417395 l hdEnv).wrap doneF deadEnd id id, hdC, p, hdF⟩
noncomputable abbrev hdRun (w : World) (n : Nat) (s : SharedT) (t : Thread) := PySem.W.Fast.tw10110043849684766642 PySem.W.Fast.tw14364793385576792824 hdProg w 11 (some (.ref 6)) 1 n s t
noncomputable abbrev hdGo (w : World) (n : Nat) (s : SharedT) (t : Thread) := PySem.W.Fast.tw10295753902157049106 PySem.W.Fast.tw14364793385576792824 hdProg w 11 (some (.ref 6)) 1 n s t
noncomputable abbrev hdRunS (w : World) (n : Nat) (s : Shared) (t : Thread) := segRun treeTable hdProg w 11 (some (.ref 6)) 1 n s t
theorem hdRunEq (w : World) (n : Nat) (s : SharedT) (t : Thread) : hdRun w n s t = segRunT treeTable hdProg w 11 (some (.ref 6)) 1 n s t := by
  rw [PySem.W.Fast.te10110043849684766642, PySem.W.Fast.te14364793385576792824]
theorem hdGoEq (w : World) (n : Nat) (s : SharedT) (t : Thread) : hdGo w n s t = segGoT treeTable hdProg w 11 (some (.ref 6)) 1 n s t := by
  rw [PySem.W.Fast.te10295753902157049106, PySem.W.Fast.te14364793385576792824]
theorem hdThEq (l : List Stmt) (p : Pos) : hdTh l p = piecesOf l hdEnv hdC p hdF := by
  unfold hdTh piecesOf
  rw [PySem.W.Fast.te12563942051412417395]
theorem hdOf {w : World} {n : Nat} {s s' : SharedT} {l : List Stmt} {p q : Pos} {f : Flow} {c : Code} (h : hdRun w n s (hdTh l p) = some (f, s', c, q)) : hdRunS w n s.abs (piecesOf l hdEnv hdC p hdF) = some (f, s'.abs, c, q) := by
  rw [hdRunEq, hdThEq] at h
  exact segRun_of h
theorem hdOfG {w : World} {n : Nat} {s s' : SharedT} {l : List Stmt} {p : Pos} {t : Thread} (h : hdGo w n s (hdTh l p) = some (s', t)) : segGo treeTable hdProg w 11 (some (.ref 6)) 1 n s.abs (piecesOf l hdEnv hdC p hdF) = some (s'.abs, t) := by
  rw [hdGoEq, hdThEq] at h
  exact segGo_of h
theorem hdOfT {w : World} {n : Nat} {s s' : SharedT} {t : Thread} {q : Pos} {f : Flow} {c : Code} (h : hdRun w n s t = some (f, s', c, q)) : hdRunS w n s.abs t = some (f, s'.abs, c, q) := by
  rw [hdRunEq] at h
  exact segRun_of h
noncomputable def hdO11v0 (P : Params) : Obj := ⟨.type "tuple", none, .seq #[] 0, #[]⟩
noncomputable def hdO12v0 (P : Params) : Obj := ⟨.none, none, .fields #[], #[]⟩
noncomputable def hdO13v0 (P : Params) : Obj := ⟨.type "code", none, .fields #[.str (⟨#[60, 109, 111, 100, 117, 108, 101, 62]⟩) 182, .str (⟨#[60, 109, 111, 100, 117, 108, 101, 62]⟩) 183, .str (⟨#[47, 99, 108, 97, 105, 109, 47, 99, 117, 116, 46, 112, 121]⟩) 184, .int 1 0, .int 0 0, .int 0 0, .int 0 0, .int 0 0, .ref 11, .bool false, .int 181 0, .ref 12, .none, .none, .none, .none, .int 185 0, .int 1 0, .str (⟨#[47, 99, 108, 97, 105, 109, 47, 99, 117, 116, 46, 112, 121]⟩) 186], #[]⟩
noncomputable def hdO14v0 (P : Params) : Obj := ⟨.type "frame", none, .plain, #[(some (.ref 13)), (some (.ref 3)), (some (.ref 3)), none, (some (.str (⟨#[95, 95, 109, 97, 105, 110, 95, 95]⟩) 164)), none, (some (.ref 0))]⟩
noncomputable def hdSah (P : Params) : Heap := ⟨List.toArray (PySem.W.boot_o_0 P :: PySem.W.boot_o_1 P :: PySem.W.boot_o_2 P :: PySem.W.boot_o_3 P :: PySem.W.boot_o_4 P :: PySem.W.boot_o_5 P :: PySem.W.boot_o_6 P :: PySem.W.boot_o_7 P :: PySem.W.boot_o_8 P :: PySem.W.boot_o_9 P :: PySem.W.boot_o_10 P :: hdO11v0 P :: hdO12v0 P :: hdO13v0 P :: hdO14v0 P :: []), {}⟩
noncomputable def hdSa (w : World) (os : OsState) : Shared := ⟨hdSah w.params, #[], ⟨0, 0, 0, 0⟩, 187, os⟩
theorem hdPre (w : World) (os : OsState) : topGo treeTable hdProg w 11 (some (.ref 6)) 12 ⟨boot_heap w.params, Array.mk [], boot_drawn, boot_toks, os⟩ (topStub hdProg) = some (hdSa w os, ⟨denote treeTable hdC, hdC, ⟨0, 0, 0, 0⟩, hdF⟩) := by kernel_rfl
noncomputable def hdSt (P : Params) : BT := (.node (PySem.W.boot_o_0 P) (.node (PySem.W.boot_o_1 P) (.node (PySem.W.boot_o_3 P) (.node (PySem.W.boot_o_7 P) .nil .nil) (.node (hdO11v0 P) .nil .nil)) (.node (PySem.W.boot_o_5 P) (.node (PySem.W.boot_o_9 P) .nil .nil) (.node (hdO13v0 P) .nil .nil))) (.node (PySem.W.boot_o_2 P) (.node (PySem.W.boot_o_4 P) (.node (PySem.W.boot_o_8 P) .nil .nil) (.node (hdO12v0 P) .nil .nil)) (.node (PySem.W.boot_o_6 P) (.node (PySem.W.boot_o_10 P) .nil .nil) (.node (hdO14v0 P) .nil .nil))))
noncomputable def hdS (w : World) (os : OsState) : SharedT := ⟨hdSt w.params, 15, {}, #[], ⟨0, 0, 0, 0⟩, 187, os⟩
theorem hdBlock (w : World) (os : OsState) : hdRunS w 1 (hdSa w os) (blockOf hdB hdEnv hdC ⟨0, 0, 0, 0⟩ hdF) = some (.next, (hdS w os).abs, hdC, ⟨0, 0, 0, 0⟩) := by kernel_rfl
noncomputable def hdO3v1 (P : Params) : Obj := ⟨.type "dict", none, .dict #[⟨PyData.keyHash P (⟨#[95, 95, 110, 97, 109, 101, 95, 95]⟩), .str (⟨#[95, 95, 110, 97, 109, 101, 95, 95]⟩) 165, .str (⟨#[95, 95, 109, 97, 105, 110, 95, 95]⟩) 164⟩, ⟨PyData.keyHash P (⟨#[95, 95, 100, 111, 99, 95, 95]⟩), .str (⟨#[95, 95, 100, 111, 99, 95, 95]⟩) 166, .none⟩, ⟨PyData.keyHash P (⟨#[95, 95, 112, 97, 99, 107, 97, 103, 101, 95, 95]⟩), .str (⟨#[95, 95, 112, 97, 99, 107, 97, 103, 101, 95, 95]⟩) 167, .none⟩, ⟨PyData.keyHash P (⟨#[95, 95, 108, 111, 97, 100, 101, 114, 95, 95]⟩), .str (⟨#[95, 95, 108, 111, 97, 100, 101, 114, 95, 95]⟩) 168, .builtin "__main__.__loader__#opaque"⟩, ⟨PyData.keyHash P (⟨#[95, 95, 115, 112, 101, 99, 95, 95]⟩), .str (⟨#[95, 95, 115, 112, 101, 99, 95, 95]⟩) 169, .none⟩, ⟨PyData.keyHash P (⟨#[95, 95, 97, 110, 110, 111, 116, 97, 116, 105, 111, 110, 115, 95, 95]⟩), .str (⟨#[95, 95, 97, 110, 110, 111, 116, 97, 116, 105, 111, 110, 115, 95, 95]⟩) 170, .ref 6⟩, ⟨PyData.keyHash P (⟨#[95, 95, 98, 117, 105, 108, 116, 105, 110, 115, 95, 95]⟩), .str (⟨#[95, 95, 98, 117, 105, 108, 116, 105, 110, 115, 95, 95]⟩) 171, .ref 4⟩, ⟨PyData.keyHash P (⟨#[95, 95, 102, 105, 108, 101, 95, 95]⟩), .str (⟨#[95, 95, 102, 105, 108, 101, 95, 95]⟩) 173, .str (⟨#[47, 99, 108, 97, 105, 109, 47, 99, 117, 116, 46, 112, 121]⟩) 172⟩, ⟨PyData.keyHash P (⟨#[95, 95, 99, 97, 99, 104, 101, 100, 95, 95]⟩), .str (⟨#[95, 95, 99, 97, 99, 104, 101, 100, 95, 95]⟩) 174, .none⟩, ⟨PyData.keyHash P (⟨#[67, 82, 76, 70]⟩), .str (⟨#[67, 82, 76, 70]⟩) 188, .str (⟨#[13, 10]⟩) 187⟩, ⟨PyData.keyHash P (⟨#[78, 76]⟩), .str (⟨#[78, 76]⟩) 190, .str (⟨#[10]⟩) 189⟩] 11, #[]⟩
noncomputable def hdS0t (P : Params) : BT := (.node (PySem.W.boot_o_0 P) (.node (PySem.W.boot_o_1 P) (.node (hdO3v1 P) (.node (PySem.W.boot_o_7 P) .nil .nil) (.node (hdO11v0 P) .nil .nil)) (.node (PySem.W.boot_o_5 P) (.node (PySem.W.boot_o_9 P) .nil .nil) (.node (hdO13v0 P) .nil .nil))) (.node (PySem.W.boot_o_2 P) (.node (PySem.W.boot_o_4 P) (.node (PySem.W.boot_o_8 P) .nil .nil) (.node (hdO12v0 P) .nil .nil)) (.node (PySem.W.boot_o_6 P) (.node (PySem.W.boot_o_10 P) .nil .nil) (.node (hdO14v0 P) .nil .nil))))
noncomputable def hdS0 (w : World) (os : OsState) : SharedT := ⟨hdS0t w.params, 15, {}, #[], ⟨0, 0, 0, 0⟩, 191, os⟩
theorem hdP0 (w : World) (os : OsState) : (hdRun w 19 (hdS w os) (hdTh (hdSts 0 2) ⟨0, 0, 0, 0⟩)) = some (.next, hdS0 w os, hdC, ⟨2, 0, 2, 2⟩) := by kernel_rfl
theorem hdR0 (w : World) (os : OsState) : hdRunS w 19 (hdS w os).abs (piecesOf (hdSts 0 2) hdEnv hdC ⟨0, 0, 0, 0⟩ hdF) = some (.next, (hdS0 w os).abs, hdC, ⟨2, 0, 2, 2⟩) := hdOf (hdP0 w os)
noncomputable def hdO15v0 (P : Params) : Obj := ⟨.type "range", none, .fields #[.int 0 192, .int 256 191, .int 1 193], #[]⟩
noncomputable def hdO16v0 (P : Params) : Obj := ⟨.type "range_iterator", none, .fields #[.int 0 0, .int 256 0, .int 1 0], #[]⟩
noncomputable def hdO17v0 (P : Params) : Obj := ⟨.type "list", none, .seq #[] 0, #[]⟩
noncomputable def hdO18v0 (P : Params) : Obj := ⟨.type "dict", none, .dict #[] 0, #[]⟩
noncomputable def hdS1ct (P : Params) : BT := (.node (PySem.W.boot_o_0 P) (.node (PySem.W.boot_o_1 P) (.node (hdO3v1 P) (.node (PySem.W.boot_o_7 P) (.node (hdO15v0 P) .nil .nil) .nil) (.node (hdO11v0 P) .nil .nil)) (.node (PySem.W.boot_o_5 P) (.node (PySem.W.boot_o_9 P) (.node (hdO17v0 P) .nil .nil) .nil) (.node (hdO13v0 P) .nil .nil))) (.node (PySem.W.boot_o_2 P) (.node (PySem.W.boot_o_4 P) (.node (PySem.W.boot_o_8 P) (.node (hdO16v0 P) .nil .nil) .nil) (.node (hdO12v0 P) .nil .nil)) (.node (PySem.W.boot_o_6 P) (.node (PySem.W.boot_o_10 P) (.node (hdO18v0 P) .nil .nil) .nil) (.node (hdO14v0 P) .nil .nil))))
noncomputable def hdS1c (w : World) (os : OsState) : SharedT := ⟨hdS1ct w.params, 19, {}, #[], ⟨0, 0, 0, 0⟩, 194, os⟩
noncomputable def hdT1 (w : World) (os : OsState) : Thread := ((hdGo ((w.withFollow "comprehension-iter-twice" false).withFollow "special-get-raises" false) 60 (hdS0 ((w.withFollow "comprehension-iter-twice" false).withFollow "special-get-raises" false) os) (hdTh (hdSts 2 1) ⟨2, 0, 2, 2⟩)).getD (hdS0 ((w.withFollow "comprehension-iter-twice" false).withFollow "special-get-raises" false) os, (hdTh (hdSts 2 1) ⟨2, 0, 2, 2⟩))).2
theorem hdC1ff (w : World) (os : OsState) : hdGo ((w.withFollow "comprehension-iter-twice" false).withFollow "special-get-raises" false) 60 (hdS0 ((w.withFollow "comprehension-iter-twice" false).withFollow "special-get-raises" false) os) (hdTh (hdSts 2 1) ⟨2, 0, 2, 2⟩) = some (hdS1c ((w.withFollow "comprehension-iter-twice" false).withFollow "special-get-raises" false) os, hdT1 ((w.withFollow "comprehension-iter-twice" false).withFollow "special-get-raises" false) os) := by kernel_rfl
theorem hdC1ft (w : World) (os : OsState) : hdGo ((w.withFollow "comprehension-iter-twice" false).withFollow "special-get-raises" true) 60 (hdS0 ((w.withFollow "comprehension-iter-twice" false).withFollow "special-get-raises" true) os) (hdTh (hdSts 2 1) ⟨2, 0, 2, 2⟩) = some (hdS1c ((w.withFollow "comprehension-iter-twice" false).withFollow "special-get-raises" true) os, hdT1 ((w.withFollow "comprehension-iter-twice" false).withFollow "special-get-raises" true) os) := by kernel_rfl
theorem hdC1tf (w : World) (os : OsState) : hdGo ((w.withFollow "comprehension-iter-twice" true).withFollow "special-get-raises" false) 50 (hdS0 ((w.withFollow "comprehension-iter-twice" true).withFollow "special-get-raises" false) os) (hdTh (hdSts 2 1) ⟨2, 0, 2, 2⟩) = some (hdS1c ((w.withFollow "comprehension-iter-twice" true).withFollow "special-get-raises" false) os, hdT1 ((w.withFollow "comprehension-iter-twice" true).withFollow "special-get-raises" false) os) := by kernel_rfl
theorem hdC1tt (w : World) (os : OsState) : hdGo ((w.withFollow "comprehension-iter-twice" true).withFollow "special-get-raises" true) 50 (hdS0 ((w.withFollow "comprehension-iter-twice" true).withFollow "special-get-raises" true) os) (hdTh (hdSts 2 1) ⟨2, 0, 2, 2⟩) = some (hdS1c ((w.withFollow "comprehension-iter-twice" true).withFollow "special-get-raises" true) os, hdT1 ((w.withFollow "comprehension-iter-twice" true).withFollow "special-get-raises" true) os) := by kernel_rfl
noncomputable def hdO3v2 (P : Params) : Obj := ⟨.type "dict", none, .dict #[⟨PyData.keyHash P (⟨#[95, 95, 110, 97, 109, 101, 95, 95]⟩), .str (⟨#[95, 95, 110, 97, 109, 101, 95, 95]⟩) 165, .str (⟨#[95, 95, 109, 97, 105, 110, 95, 95]⟩) 164⟩, ⟨PyData.keyHash P (⟨#[95, 95, 100, 111, 99, 95, 95]⟩), .str (⟨#[95, 95, 100, 111, 99, 95, 95]⟩) 166, .none⟩, ⟨PyData.keyHash P (⟨#[95, 95, 112, 97, 99, 107, 97, 103, 101, 95, 95]⟩), .str (⟨#[95, 95, 112, 97, 99, 107, 97, 103, 101, 95, 95]⟩) 167, .none⟩, ⟨PyData.keyHash P (⟨#[95, 95, 108, 111, 97, 100, 101, 114, 95, 95]⟩), .str (⟨#[95, 95, 108, 111, 97, 100, 101, 114, 95, 95]⟩) 168, .builtin "__main__.__loader__#opaque"⟩, ⟨PyData.keyHash P (⟨#[95, 95, 115, 112, 101, 99, 95, 95]⟩), .str (⟨#[95, 95, 115, 112, 101, 99, 95, 95]⟩) 169, .none⟩, ⟨PyData.keyHash P (⟨#[95, 95, 97, 110, 110, 111, 116, 97, 116, 105, 111, 110, 115, 95, 95]⟩), .str (⟨#[95, 95, 97, 110, 110, 111, 116, 97, 116, 105, 111, 110, 115, 95, 95]⟩) 170, .ref 6⟩, ⟨PyData.keyHash P (⟨#[95, 95, 98, 117, 105, 108, 116, 105, 110, 115, 95, 95]⟩), .str (⟨#[95, 95, 98, 117, 105, 108, 116, 105, 110, 115, 95, 95]⟩) 171, .ref 4⟩, ⟨PyData.keyHash P (⟨#[95, 95, 102, 105, 108, 101, 95, 95]⟩), .str (⟨#[95, 95, 102, 105, 108, 101, 95, 95]⟩) 173, .str (⟨#[47, 99, 108, 97, 105, 109, 47, 99, 117, 116, 46, 112, 121]⟩) 172⟩, ⟨PyData.keyHash P (⟨#[95, 95, 99, 97, 99, 104, 101, 100, 95, 95]⟩), .str (⟨#[95, 95, 99, 97, 99, 104, 101, 100, 95, 95]⟩) 174, .none⟩, ⟨PyData.keyHash P (⟨#[67, 82, 76, 70]⟩), .str (⟨#[67, 82, 76, 70]⟩) 188, .str (⟨#[13, 10]⟩) 187⟩, ⟨PyData.keyHash P (⟨#[78, 76]⟩), .str (⟨#[78, 76]⟩) 190, .str (⟨#[10]⟩) 189⟩, ⟨PyData.keyHash P (⟨#[95, 81, 85, 79, 80, 82, 73, 95, 77, 65, 80]⟩), .str (⟨#[95, 81, 85, 79, 80, 82, 73, 95, 77, 65, 80]⟩) 1218, .ref 17⟩] 12, #[]⟩
noncomputable def hdO15v1 (P : Params) : Obj := ⟨.type "range", none, .fields #[.int 0 192, .int 256 191, .int 1 193], #[]⟩
noncomputable def hdO16v1 (P : Params) : Obj := ⟨.type "range_iterator", none, .fields #[.int 256 0, .int 0 0, .int 1 0], #[]⟩
noncomputable def hdO17v1 (P : Params) : Obj := ⟨.type "list", none, .seq (List.toArray (.str (⟨#[61, 48, 48]⟩) 197 ::
 .str (⟨#[61, 48, 49]⟩) 201 ::
 .str (⟨#[61, 48, 50]⟩) 205 ::
 .str (⟨#[61, 48, 51]⟩) 209 ::
 .str (⟨#[61, 48, 52]⟩) 213 ::
 .str (⟨#[61, 48, 53]⟩) 217 ::
 .str (⟨#[61, 48, 54]⟩) 221 ::
 .str (⟨#[61, 48, 55]⟩) 225 ::
 .str (⟨#[61, 48, 56]⟩) 229 ::
 .str (⟨#[61, 48, 57]⟩) 233 ::
 .str (⟨#[61, 48, 65]⟩) 237 ::
 .str (⟨#[61, 48, 66]⟩) 241 ::
 .str (⟨#[61, 48, 67]⟩) 245 ::
 .str (⟨#[61, 48, 68]⟩) 249 ::
 .str (⟨#[61, 48, 69]⟩) 253 ::
 .str (⟨#[61, 48, 70]⟩) 257 ::
 .str (⟨#[61, 49, 48]⟩) 261 ::
 .str (⟨#[61, 49, 49]⟩) 265 ::
 .str (⟨#[61, 49, 50]⟩) 269 ::
 .str (⟨#[61, 49, 51]⟩) 273 ::
 .str (⟨#[61, 49, 52]⟩) 277 ::
 .str (⟨#[61, 49, 53]⟩) 281 ::
 .str (⟨#[61, 49, 54]⟩) 285 ::
 .str (⟨#[61, 49, 55]⟩) 289 ::
 .str (⟨#[61, 49, 56]⟩) 293 ::
 .str (⟨#[61, 49, 57]⟩) 297 ::
 .str (⟨#[61, 49, 65]⟩) 301 ::
 .str (⟨#[61, 49, 66]⟩) 305 ::
 .str (⟨#[61, 49, 67]⟩) 309 ::
 .str (⟨#[61, 49, 68]⟩) 313 ::
 .str (⟨#[61, 49, 69]⟩) 317 ::
 .str (⟨#[61, 49, 70]⟩) 321 ::
 .str (⟨#[61, 50, 48]⟩) 325 ::
 .str (⟨#[61, 50, 49]⟩) 329 ::
 .str (⟨#[61, 50, 50]⟩) 333 ::
 .str (⟨#[61, 50, 51]⟩) 337 ::
 .str (⟨#[61, 50, 52]⟩) 341 ::
 .str (⟨#[61, 50, 53]⟩) 345 ::
 .str (⟨#[61, 50, 54]⟩) 349 ::
 .str (⟨#[61, 50, 55]⟩) 353 ::
 .str (⟨#[61, 50, 56]⟩) 357 ::
 .str (⟨#[61, 50, 57]⟩) 361 ::
 .str (⟨#[61, 50, 65]⟩) 365 ::
 .str (⟨#[61, 50, 66]⟩) 369 ::
 .str (⟨#[61, 50, 67]⟩) 373 ::
 .str (⟨#[61, 50, 68]⟩) 377 ::
 .str (⟨#[61, 50, 69]⟩) 381 ::
 .str (⟨#[61, 50, 70]⟩) 385 ::
 .str (⟨#[61, 51, 48]⟩) 389 ::
 .str (⟨#[61, 51, 49]⟩) 393 ::
 .str (⟨#[61, 51, 50]⟩) 397 ::
 .str (⟨#[61, 51, 51]⟩) 401 ::
 .str (⟨#[61, 51, 52]⟩) 405 ::
 .str (⟨#[61, 51, 53]⟩) 409 ::
 .str (⟨#[61, 51, 54]⟩) 413 ::
 .str (⟨#[61, 51, 55]⟩) 417 ::
 .str (⟨#[61, 51, 56]⟩) 421 ::
 .str (⟨#[61, 51, 57]⟩) 425 ::
 .str (⟨#[61, 51, 65]⟩) 429 ::
 .str (⟨#[61, 51, 66]⟩) 433 ::
 .str (⟨#[61, 51, 67]⟩) 437 ::
 .str (⟨#[61, 51, 68]⟩) 441 ::
 .str (⟨#[61, 51, 69]⟩) 445 ::
 .str (⟨#[61, 51, 70]⟩) 449 ::
 .str (⟨#[61, 52, 48]⟩) 453 ::
 .str (⟨#[61, 52, 49]⟩) 457 ::
 .str (⟨#[61, 52, 50]⟩) 461 ::
 .str (⟨#[61, 52, 51]⟩) 465 ::
 .str (⟨#[61, 52, 52]⟩) 469 ::
 .str (⟨#[61, 52, 53]⟩) 473 ::
 .str (⟨#[61, 52, 54]⟩) 477 ::
 .str (⟨#[61, 52, 55]⟩) 481 ::
 .str (⟨#[61, 52, 56]⟩) 485 ::
 .str (⟨#[61, 52, 57]⟩) 489 ::
 .str (⟨#[61, 52, 65]⟩) 493 ::
 .str (⟨#[61, 52, 66]⟩) 497 ::
 .str (⟨#[61, 52, 67]⟩) 501 ::
 .str (⟨#[61, 52, 68]⟩) 505 ::
 .str (⟨#[61, 52, 69]⟩) 509 ::
 .str (⟨#[61, 52, 70]⟩) 513 ::
 .str (⟨#[61, 53, 48]⟩) 517 ::
 .str (⟨#[61, 53, 49]⟩) 521 ::
 .str (⟨#[61, 53, 50]⟩) 525 ::
 .str (⟨#[61, 53, 51]⟩) 529 ::
 .str (⟨#[61, 53, 52]⟩) 533 ::
 .str (⟨#[61, 53, 53]⟩) 537 ::
 .str (⟨#[61, 53, 54]⟩) 541 ::
 .str (⟨#[61, 53, 55]⟩) 545 ::
 .str (⟨#[61, 53, 56]⟩) 549 ::
 .str (⟨#[61, 53, 57]⟩) 553 ::
 .str (⟨#[61, 53, 65]⟩) 557 ::
 .str (⟨#[61, 53, 66]⟩) 561 ::
 .str (⟨#[61, 53, 67]⟩) 565 ::
 .str (⟨#[61, 53, 68]⟩) 569 ::
 .str (⟨#[61, 53, 69]⟩) 573 ::
 .str (⟨#[61, 53, 70]⟩) 577 ::
 .str (⟨#[61, 54, 48]⟩) 581 ::
 .str (⟨#[61, 54, 49]⟩) 585 ::
 .str (⟨#[61, 54, 50]⟩) 589 ::
 .str (⟨#[61, 54, 51]⟩) 593 ::
 .str (⟨#[61, 54, 52]⟩) 597 ::
 .str (⟨#[61, 54, 53]⟩) 601 ::
 .str (⟨#[61, 54, 54]⟩) 605 ::
 .str (⟨#[61, 54, 55]⟩) 609 ::
 .str (⟨#[61, 54, 56]⟩) 613 ::
 .str (⟨#[61, 54, 57]⟩) 617 ::
 .str (⟨#[61, 54, 65]⟩) 621 ::
 .str (⟨#[61, 54, 66]⟩) 625 ::
 .str (⟨#[61, 54, 67]⟩) 629 ::
 .str (⟨#[61, 54, 68]⟩) 633 ::
 .str (⟨#[61, 54, 69]⟩) 637 ::
 .str (⟨#[61, 54, 70]⟩) 641 ::
 .str (⟨#[61, 55, 48]⟩) 645 ::
 .str (⟨#[61, 55, 49]⟩) 649 ::
 .str (⟨#[61, 55, 50]⟩) 653 ::
 .str (⟨#[61, 55, 51]⟩) 657 ::
 .str (⟨#[61, 55, 52]⟩) 661 ::
 .str (⟨#[61, 55, 53]⟩) 665 ::
 .str (⟨#[61, 55, 54]⟩) 669 ::
 .str (⟨#[61, 55, 55]⟩) 673 ::
 .str (⟨#[61, 55, 56]⟩) 677 ::
 .str (⟨#[61, 55, 57]⟩) 681 ::
 .str (⟨#[61, 55, 65]⟩) 685 ::
 .str (⟨#[61, 55, 66]⟩) 689 ::
 .str (⟨#[61, 55, 67]⟩) 693 ::
 .str (⟨#[61, 55, 68]⟩) 697 ::
 .str (⟨#[61, 55, 69]⟩) 701 ::
 .str (⟨#[61, 55, 70]⟩) 705 ::
 .str (⟨#[61, 56, 48]⟩) 709 ::
 .str (⟨#[61, 56, 49]⟩) 713 ::
 .str (⟨#[61, 56, 50]⟩) 717 ::
 .str (⟨#[61, 56, 51]⟩) 721 ::
 .str (⟨#[61, 56, 52]⟩) 725 ::
 .str (⟨#[61, 56, 53]⟩) 729 ::
 .str (⟨#[61, 56, 54]⟩) 733 ::
 .str (⟨#[61, 56, 55]⟩) 737 ::
 .str (⟨#[61, 56, 56]⟩) 741 ::
 .str (⟨#[61, 56, 57]⟩) 745 ::
 .str (⟨#[61, 56, 65]⟩) 749 ::
 .str (⟨#[61, 56, 66]⟩) 753 ::
 .str (⟨#[61, 56, 67]⟩) 757 ::
 .str (⟨#[61, 56, 68]⟩) 761 ::
 .str (⟨#[61, 56, 69]⟩) 765 ::
 .str (⟨#[61, 56, 70]⟩) 769 ::
 .str (⟨#[61, 57, 48]⟩) 773 ::
 .str (⟨#[61, 57, 49]⟩) 777 ::
 .str (⟨#[61, 57, 50]⟩) 781 ::
 .str (⟨#[61, 57, 51]⟩) 785 ::
 .str (⟨#[61, 57, 52]⟩) 789 ::
 .str (⟨#[61, 57, 53]⟩) 793 ::
 .str (⟨#[61, 57, 54]⟩) 797 ::
 .str (⟨#[61, 57, 55]⟩) 801 ::
 .str (⟨#[61, 57, 56]⟩) 805 ::
 .str (⟨#[61, 57, 57]⟩) 809 ::
 .str (⟨#[61, 57, 65]⟩) 813 ::
 .str (⟨#[61, 57, 66]⟩) 817 ::
 .str (⟨#[61, 57, 67]⟩) 821 ::
 .str (⟨#[61, 57, 68]⟩) 825 ::
 .str (⟨#[61, 57, 69]⟩) 829 ::
 .str (⟨#[61, 57, 70]⟩) 833 ::
 .str (⟨#[61, 65, 48]⟩) 837 ::
 .str (⟨#[61, 65, 49]⟩) 841 ::
 .str (⟨#[61, 65, 50]⟩) 845 ::
 .str (⟨#[61, 65, 51]⟩) 849 ::
 .str (⟨#[61, 65, 52]⟩) 853 ::
 .str (⟨#[61, 65, 53]⟩) 857 ::
 .str (⟨#[61, 65, 54]⟩) 861 ::
 .str (⟨#[61, 65, 55]⟩) 865 ::
 .str (⟨#[61, 65, 56]⟩) 869 ::
 .str (⟨#[61, 65, 57]⟩) 873 ::
 .str (⟨#[61, 65, 65]⟩) 877 ::
 .str (⟨#[61, 65, 66]⟩) 881 ::
 .str (⟨#[61, 65, 67]⟩) 885 ::
 .str (⟨#[61, 65, 68]⟩) 889 ::
 .str (⟨#[61, 65, 69]⟩) 893 ::
 .str (⟨#[61, 65, 70]⟩) 897 ::
 .str (⟨#[61, 66, 48]⟩) 901 ::
 .str (⟨#[61, 66, 49]⟩) 905 ::
 .str (⟨#[61, 66, 50]⟩) 909 ::
 .str (⟨#[61, 66, 51]⟩) 913 ::
 .str (⟨#[61, 66, 52]⟩) 917 ::
 .str (⟨#[61, 66, 53]⟩) 921 ::
 .str (⟨#[61, 66, 54]⟩) 925 ::
 .str (⟨#[61, 66, 55]⟩) 929 ::
 .str (⟨#[61, 66, 56]⟩) 933 ::
 .str (⟨#[61, 66, 57]⟩) 937 ::
 .str (⟨#[61, 66, 65]⟩) 941 ::
 .str (⟨#[61, 66, 66]⟩) 945 ::
 .str (⟨#[61, 66, 67]⟩) 949 ::
 .str (⟨#[61, 66, 68]⟩) 953 ::
 .str (⟨#[61, 66, 69]⟩) 957 ::
 .str (⟨#[61, 66, 70]⟩) 961 ::
 .str (⟨#[61, 67, 48]⟩) 965 ::
 .str (⟨#[61, 67, 49]⟩) 969 ::
 .str (⟨#[61, 67, 50]⟩) 973 ::
 .str (⟨#[61, 67, 51]⟩) 977 ::
 .str (⟨#[61, 67, 52]⟩) 981 ::
 .str (⟨#[61, 67, 53]⟩) 985 ::
 .str (⟨#[61, 67, 54]⟩) 989 ::
 .str (⟨#[61, 67, 55]⟩) 993 ::
 .str (⟨#[61, 67, 56]⟩) 997 ::
 .str (⟨#[61, 67, 57]⟩) 1001 ::
 .str (⟨#[61, 67, 65]⟩) 1005 ::
 .str (⟨#[61, 67, 66]⟩) 1009 ::
 .str (⟨#[61, 67, 67]⟩) 1013 ::
 .str (⟨#[61, 67, 68]⟩) 1017 ::
 .str (⟨#[61, 67, 69]⟩) 1021 ::
 .str (⟨#[61, 67, 70]⟩) 1025 ::
 .str (⟨#[61, 68, 48]⟩) 1029 ::
 .str (⟨#[61, 68, 49]⟩) 1033 ::
 .str (⟨#[61, 68, 50]⟩) 1037 ::
 .str (⟨#[61, 68, 51]⟩) 1041 ::
 .str (⟨#[61, 68, 52]⟩) 1045 ::
 .str (⟨#[61, 68, 53]⟩) 1049 ::
 .str (⟨#[61, 68, 54]⟩) 1053 ::
 .str (⟨#[61, 68, 55]⟩) 1057 ::
 .str (⟨#[61, 68, 56]⟩) 1061 ::
 .str (⟨#[61, 68, 57]⟩) 1065 ::
 .str (⟨#[61, 68, 65]⟩) 1069 ::
 .str (⟨#[61, 68, 66]⟩) 1073 ::
 .str (⟨#[61, 68, 67]⟩) 1077 ::
 .str (⟨#[61, 68, 68]⟩) 1081 ::
 .str (⟨#[61, 68, 69]⟩) 1085 ::
 .str (⟨#[61, 68, 70]⟩) 1089 ::
 .str (⟨#[61, 69, 48]⟩) 1093 ::
 .str (⟨#[61, 69, 49]⟩) 1097 ::
 .str (⟨#[61, 69, 50]⟩) 1101 ::
 .str (⟨#[61, 69, 51]⟩) 1105 ::
 .str (⟨#[61, 69, 52]⟩) 1109 ::
 .str (⟨#[61, 69, 53]⟩) 1113 ::
 .str (⟨#[61, 69, 54]⟩) 1117 ::
 .str (⟨#[61, 69, 55]⟩) 1121 ::
 .str (⟨#[61, 69, 56]⟩) 1125 ::
 .str (⟨#[61, 69, 57]⟩) 1129 ::
 .str (⟨#[61, 69, 65]⟩) 1133 ::
 .str (⟨#[61, 69, 66]⟩) 1137 ::
 .str (⟨#[61, 69, 67]⟩) 1141 ::
 .str (⟨#[61, 69, 68]⟩) 1145 ::
 .str (⟨#[61, 69, 69]⟩) 1149 ::
 .str (⟨#[61, 69, 70]⟩) 1153 ::
 .str (⟨#[61, 70, 48]⟩) 1157 ::
 .str (⟨#[61, 70, 49]⟩) 1161 ::
 .str (⟨#[61, 70, 50]⟩) 1165 ::
 .str (⟨#[61, 70, 51]⟩) 1169 ::
 .str (⟨#[61, 70, 52]⟩) 1173 ::
 .str (⟨#[61, 70, 53]⟩) 1177 ::
 .str (⟨#[61, 70, 54]⟩) 1181 ::
 .str (⟨#[61, 70, 55]⟩) 1185 ::
 .str (⟨#[61, 70, 56]⟩) 1189 ::
 .str (⟨#[61, 70, 57]⟩) 1193 ::
 .str (⟨#[61, 70, 65]⟩) 1197 ::
 .str (⟨#[61, 70, 66]⟩) 1201 ::
 .str (⟨#[61, 70, 67]⟩) 1205 ::
 .str (⟨#[61, 70, 68]⟩) 1209 ::
 .str (⟨#[61, 70, 69]⟩) 1213 ::
 .str (⟨#[61, 70, 70]⟩) 1217 ::
 [])) 256, #[]⟩
noncomputable def hdO18v1 (P : Params) : Obj := ⟨.type "dict", none, .dict #[] 2, #[]⟩
noncomputable def hdO19v0 (P : Params) : Obj := ⟨.type "tuple", none, .seq #[] 0, #[]⟩
noncomputable def hdO20v0 (P : Params) : Obj := ⟨.type "StopIteration", none, .fields #[.ref 19, .none, .none, .none, .bool false, .none], #[]⟩
noncomputable def hdS1t (P : Params) : BT := (.node (PySem.W.boot_o_0 P) (.node (PySem.W.boot_o_1 P) (.node (hdO3v2 P) (.node (PySem.W.boot_o_7 P) (.node (hdO15v1 P) .nil .nil) .nil) (.node (hdO11v0 P) (.node (hdO19v0 P) .nil .nil) .nil)) (.node (PySem.W.boot_o_5 P) (.node (PySem.W.boot_o_9 P) (.node (hdO17v1 P) .nil .nil) .nil) (.node (hdO13v0 P) .nil .nil))) (.node (PySem.W.boot_o_2 P) (.node (PySem.W.boot_o_4 P) (.node (PySem.W.boot_o_8 P) (.node (hdO16v1 P) .nil .nil) .nil) (.node (hdO12v0 P) (.node (hdO20v0 P) .nil .nil) .nil)) (.node (PySem.W.boot_o_6 P) (.node (PySem.W.boot_o_10 P) (.node (hdO18v1 P) .nil .nil) .nil) (.node (hdO14v0 P) .nil .nil))))
noncomputable def hdS1 (w : World) (os : OsState) : SharedT := ⟨hdS1t w.params, 21, {}, #[], ⟨0, 0, 0, 0⟩, 1219, os⟩
theorem hdL1 (w : World) (os : OsState) : hdRun w 9492 (hdS1c w os) (hdT1 w os) = some (.next, hdS1 w os, hdC, ⟨3, 0, 3, 11⟩) := by kernel_rfl
theorem hdR1ff (w : World) (os : OsState) : hdRunS ((w.withFollow "comprehension-iter-twice" false).withFollow "special-get-raises" false) 9552 (hdS0 ((w.withFollow "comprehension-iter-twice" false).withFollow "special-get-raises" false) os).abs (piecesOf (hdSts 2 1) hdEnv hdC ⟨2, 0, 2, 2⟩ hdF) = some (.next, (hdS1 ((w.withFollow "comprehension-iter-twice" false).withFollow "special-get-raises" false) os).abs, hdC, ⟨3, 0, 3, 11⟩) := hdMono (n := 60 + 9492) (by decide) (seg_go (hdOfG (hdC1ff w os)) (hdOfT (hdL1 ((w.withFollow "comprehension-iter-twice" false).withFollow "special-get-raises" false) os)))
theorem hdR1ft (w : World) (os : OsState) : hdRunS ((w.withFollow "comprehension-iter-twice" false).withFollow "special-get-raises" true) 9552 (hdS0 ((w.withFollow "comprehension-iter-twice" false).withFollow "special-get-raises" true) os).abs (piecesOf (hdSts 2 1) hdEnv hdC ⟨2, 0, 2, 2⟩ hdF) = some (.next, (hdS1 ((w.withFollow "comprehension-iter-twice" false).withFollow "special-get-raises" true) os).abs, hdC, ⟨3, 0, 3, 11⟩) := hdMono (n := 60 + 9492) (by decide) (seg_go (hdOfG (hdC1ft w os)) (hdOfT (hdL1 ((w.withFollow "comprehension-iter-twice" false).withFollow "special-get-raises" true) os)))
theorem hdR1tf (w : World) (os : OsState) : hdRunS ((w.withFollow "comprehension-iter-twice" true).withFollow "special-get-raises" false) 9552 (hdS0 ((w.withFollow "comprehension-iter-twice" true).withFollow "special-get-raises" false) os).abs (piecesOf (hdSts 2 1) hdEnv hdC ⟨2, 0, 2, 2⟩ hdF) = some (.next, (hdS1 ((w.withFollow "comprehension-iter-twice" true).withFollow "special-get-raises" false) os).abs, hdC, ⟨3, 0, 3, 11⟩) := hdMono (n := 50 + 9492) (by decide) (seg_go (hdOfG (hdC1tf w os)) (hdOfT (hdL1 ((w.withFollow "comprehension-iter-twice" true).withFollow "special-get-raises" false) os)))
theorem hdR1tt (w : World) (os : OsState) : hdRunS ((w.withFollow "comprehension-iter-twice" true).withFollow "special-get-raises" true) 9552 (hdS0 ((w.withFollow "comprehension-iter-twice" true).withFollow "special-get-raises" true) os).abs (piecesOf (hdSts 2 1) hdEnv hdC ⟨2, 0, 2, 2⟩ hdF) = some (.next, (hdS1 ((w.withFollow "comprehension-iter-twice" true).withFollow "special-get-raises" true) os).abs, hdC, ⟨3, 0, 3, 11⟩) := hdMono (n := 50 + 9492) (by decide) (seg_go (hdOfG (hdC1tt w os)) (hdOfT (hdL1 ((w.withFollow "comprehension-iter-twice" true).withFollow "special-get-raises" true) os)))
theorem hdR1 (w : World) (os : OsState) : hdRunS w 9552 (hdS0 w os).abs (piecesOf (hdSts 2 1) hdEnv hdC ⟨2, 0, 2, 2⟩ hdF) = some (.next, (hdS1 w os).abs, hdC, ⟨3, 0, 3, 11⟩) := hdBy "comprehension-iter-twice" (P := fun w => hdRunS w 9552 (hdS0 w os).abs (piecesOf (hdSts 2 1) hdEnv hdC ⟨2, 0, 2, 2⟩ hdF) = some (.next, (hdS1 w os).abs, hdC, ⟨3, 0, 3, 11⟩)) (hdBy "special-get-raises" (P := fun w => hdRunS w 9552 (hdS0 w os).abs (piecesOf (hdSts 2 1) hdEnv hdC ⟨2, 0, 2, 2⟩ hdF) = some (.next, (hdS1 w os).abs, hdC, ⟨3, 0, 3, 11⟩)) (hdR1ff w os) (hdR1ft w os)) (hdBy "special-get-raises" (P := fun w => hdRunS w 9552 (hdS0 w os).abs (piecesOf (hdSts 2 1) hdEnv hdC ⟨2, 0, 2, 2⟩ hdF) = some (.next, (hdS1 w os).abs, hdC, ⟨3, 0, 3, 11⟩)) (hdR1tf w os) (hdR1tt w os))
noncomputable def hdO3v3 (P : Params) : Obj := ⟨.type "dict", none, .dict #[⟨PyData.keyHash P (⟨#[95, 95, 110, 97, 109, 101, 95, 95]⟩), .str (⟨#[95, 95, 110, 97, 109, 101, 95, 95]⟩) 165, .str (⟨#[99, 112, 121, 51, 49, 51, 46, 101, 109, 97, 105, 108, 46, 113, 117, 111, 112, 114, 105, 109, 105, 109, 101]⟩) 1234⟩, ⟨PyData.keyHash P (⟨#[95, 95, 100, 111, 99, 95, 95]⟩), .str (⟨#[95, 95, 100, 111, 99, 95, 95]⟩) 166, .none⟩, ⟨PyData.keyHash P (⟨#[95, 95, 112, 97, 99, 107, 97, 103, 101, 95, 95]⟩), .str (⟨#[95, 95, 112, 97, 99, 107, 97, 103, 101, 95, 95]⟩) 167, .none⟩, ⟨PyData.keyHash P (⟨#[95, 95, 108, 111, 97, 100, 101, 114, 95, 95]⟩), .str (⟨#[95, 95, 108, 111, 97, 100, 101, 114, 95, 95]⟩) 168, .builtin "__main__.__loader__#opaque"⟩, ⟨PyData.keyHash P (⟨#[95, 95, 115, 112, 101, 99, 95, 95]⟩), .str (⟨#[95, 95, 115, 112, 101, 99, 95, 95]⟩) 169, .none⟩, ⟨PyData.keyHash P (⟨#[95, 95, 97, 110, 110, 111, 116, 97, 116, 105, 111, 110, 115, 95, 95]⟩), .str (⟨#[95, 95, 97, 110, 110, 111, 116, 97, 116, 105, 111, 110, 115, 95, 95]⟩) 170, .ref 6⟩, ⟨PyData.keyHash P (⟨#[95, 95, 98, 117, 105, 108, 116, 105, 110, 115, 95, 95]⟩), .str (⟨#[95, 95, 98, 117, 105, 108, 116, 105, 110, 115, 95, 95]⟩) 171, .ref 4⟩, ⟨PyData.keyHash P (⟨#[95, 95, 102, 105, 108, 101, 95, 95]⟩), .str (⟨#[95, 95, 102, 105, 108, 101, 95, 95]⟩) 173, .str (⟨#[47, 99, 108, 97, 105, 109, 47, 99, 117, 116, 46, 112, 121]⟩) 172⟩, ⟨PyData.keyHash P (⟨#[95, 95, 99, 97, 99, 104, 101, 100, 95, 95]⟩), .str (⟨#[95, 95, 99, 97, 99, 104, 101, 100, 95, 95]⟩) 174, .none⟩, ⟨PyData.keyHash P (⟨#[67, 82, 76, 70]⟩), .str (⟨#[67, 82, 76, 70]⟩) 188, .str (⟨#[13, 10]⟩) 187⟩, ⟨PyData.keyHash P (⟨#[78, 76]⟩), .str (⟨#[78, 76]⟩) 190, .str (⟨#[10]⟩) 189⟩, ⟨PyData.keyHash P (⟨#[95, 81, 85, 79, 80, 82, 73, 95, 77, 65, 80]⟩), .str (⟨#[95, 81, 85, 79, 80, 82, 73, 95, 77, 65, 80]⟩) 1218, .ref 17⟩, ⟨PyData.keyHash P (⟨#[95, 81, 85, 79, 80, 82, 73, 95, 72, 69, 65, 68, 69, 82, 95, 77, 65, 80]⟩), .str (⟨#[95, 81, 85, 79, 80, 82, 73, 95, 72, 69, 65, 68, 69, 82, 95, 77, 65, 80]⟩) 1219, .ref 22⟩, ⟨PyData.keyHash P (⟨#[95, 81, 85, 79, 80, 82, 73, 95, 66, 79, 68, 89, 95, 77, 65, 80]⟩), .str (⟨#[95, 81, 85, 79, 80, 82, 73, 95, 66, 79, 68, 89, 95, 77, 65, 80]⟩) 1220, .ref 24⟩, ⟨PyData.keyHash P (⟨#[97, 115, 99, 105, 105, 95, 108, 111, 119, 101, 114, 99, 97, 115, 101]⟩), .str (⟨#[97, 115, 99, 105, 105, 95, 108, 111, 119, 101, 114, 99, 97, 115, 101]⟩) 1222, .str (⟨#[97, 98, 99, 100, 101, 102, 103, 104, 105, 106, 107, 108, 109, 110, 111, 112, 113, 114, 115, 116, 117, 118, 119, 120, 121, 122]⟩) 1221⟩, ⟨PyData.keyHash P (⟨#[97, 115, 99, 105, 105, 95, 117, 112, 112, 101, 114, 99, 97, 115, 101]⟩), .str (⟨#[97, 115, 99, 105, 105, 95, 117, 112, 112, 101, 114, 99, 97, 115, 101]⟩) 1224, .str (⟨#[65, 66, 67, 68, 69, 70, 71, 72, 73, 74, 75, 76, 77, 78, 79, 80, 81, 82, 83, 84, 85, 86, 87, 88, 89, 90]⟩) 1223⟩, ⟨PyData.keyHash P (⟨#[97, 115, 99, 105, 105, 95, 108, 101, 116, 116, 101, 114, 115]⟩), .str (⟨#[97, 115, 99, 105, 105, 95, 108, 101, 116, 116, 101, 114, 115]⟩) 1226, .str (⟨#[97, 98, 99, 100, 101, 102, 103, 104, 105, 106, 107, 108, 109, 110, 111, 112, 113, 114, 115, 116, 117, 118, 119, 120, 121, 122, 65, 66, 67, 68, 69, 70, 71, 72, 73, 74, 75, 76, 77, 78, 79, 80, 81, 82, 83, 84, 85, 86, 87, 88, 89, 90]⟩) 1225⟩, ⟨PyData.keyHash P (⟨#[100, 105, 103, 105, 116, 115]⟩), .str (⟨#[100, 105, 103, 105, 116, 115]⟩) 1228, .str (⟨#[48, 49, 50, 51, 52, 53, 54, 55, 56, 57]⟩) 1227⟩, ⟨PyData.keyHash P (⟨#[104, 101, 120, 100, 105, 103, 105, 116, 115]⟩), .str (⟨#[104, 101, 120, 100, 105, 103, 105, 116, 115]⟩) 1233, .str (⟨#[48, 49, 50, 51, 52, 53, 54, 55, 56, 57, 97, 98, 99, 100, 101, 102, 65, 66, 67, 68, 69, 70]⟩) 1232⟩] 19, #[]⟩
noncomputable def hdO21v0 (P : Params) : Obj := ⟨.type "slice", none, .fields #[.none, .none, .none], #[]⟩
noncomputable def hdO22v0 (P : Params) : Obj := ⟨.type "list", none, .seq (List.toArray (.str (⟨#[61, 48, 48]⟩) 197 ::
 .str (⟨#[61, 48, 49]⟩) 201 ::
 .str (⟨#[61, 48, 50]⟩) 205 ::
 .str (⟨#[61, 48, 51]⟩) 209 ::
 .str (⟨#[61, 48, 52]⟩) 213 ::
 .str (⟨#[61, 48, 53]⟩) 217 ::
 .str (⟨#[61, 48, 54]⟩) 221 ::
 .str (⟨#[61, 48, 55]⟩) 225 ::
 .str (⟨#[61, 48, 56]⟩) 229 ::
 .str (⟨#[61, 48, 57]⟩) 233 ::
 .str (⟨#[61, 48, 65]⟩) 237 ::
 .str (⟨#[61, 48, 66]⟩) 241 ::
 .str (⟨#[61, 48, 67]⟩) 245 ::
 .str (⟨#[61, 48, 68]⟩) 249 ::
 .str (⟨#[61, 48, 69]⟩) 253 ::
 .str (⟨#[61, 48, 70]⟩) 257 ::
 .str (⟨#[61, 49, 48]⟩) 261 ::
 .str (⟨#[61, 49, 49]⟩) 265 ::
 .str (⟨#[61, 49, 50]⟩) 269 ::
 .str (⟨#[61, 49, 51]⟩) 273 ::
 .str (⟨#[61, 49, 52]⟩) 277 ::
 .str (⟨#[61, 49, 53]⟩) 281 ::
 .str (⟨#[61, 49, 54]⟩) 285 ::
 .str (⟨#[61, 49, 55]⟩) 289 ::
 .str (⟨#[61, 49, 56]⟩) 293 ::
 .str (⟨#[61, 49, 57]⟩) 297 ::
 .str (⟨#[61, 49, 65]⟩) 301 ::
 .str (⟨#[61, 49, 66]⟩) 305 ::
 .str (⟨#[61, 49, 67]⟩) 309 ::
 .str (⟨#[61, 49, 68]⟩) 313 ::
 .str (⟨#[61, 49, 69]⟩) 317 ::
 .str (⟨#[61, 49, 70]⟩) 321 ::
 .str (⟨#[61, 50, 48]⟩) 325 ::
 .str (⟨#[61, 50, 49]⟩) 329 ::
 .str (⟨#[61, 50, 50]⟩) 333 ::
 .str (⟨#[61, 50, 51]⟩) 337 ::
 .str (⟨#[61, 50, 52]⟩) 341 ::
 .str (⟨#[61, 50, 53]⟩) 345 ::
 .str (⟨#[61, 50, 54]⟩) 349 ::
 .str (⟨#[61, 50, 55]⟩) 353 ::
 .str (⟨#[61, 50, 56]⟩) 357 ::
 .str (⟨#[61, 50, 57]⟩) 361 ::
 .str (⟨#[61, 50, 65]⟩) 365 ::
 .str (⟨#[61, 50, 66]⟩) 369 ::
 .str (⟨#[61, 50, 67]⟩) 373 ::
 .str (⟨#[61, 50, 68]⟩) 377 ::
 .str (⟨#[61, 50, 69]⟩) 381 ::
 .str (⟨#[61, 50, 70]⟩) 385 ::
 .str (⟨#[61, 51, 48]⟩) 389 ::
 .str (⟨#[61, 51, 49]⟩) 393 ::
 .str (⟨#[61, 51, 50]⟩) 397 ::
 .str (⟨#[61, 51, 51]⟩) 401 ::
 .str (⟨#[61, 51, 52]⟩) 405 ::
 .str (⟨#[61, 51, 53]⟩) 409 ::
 .str (⟨#[61, 51, 54]⟩) 413 ::
 .str (⟨#[61, 51, 55]⟩) 417 ::
 .str (⟨#[61, 51, 56]⟩) 421 ::
 .str (⟨#[61, 51, 57]⟩) 425 ::
 .str (⟨#[61, 51, 65]⟩) 429 ::
 .str (⟨#[61, 51, 66]⟩) 433 ::
 .str (⟨#[61, 51, 67]⟩) 437 ::
 .str (⟨#[61, 51, 68]⟩) 441 ::
 .str (⟨#[61, 51, 69]⟩) 445 ::
 .str (⟨#[61, 51, 70]⟩) 449 ::
 .str (⟨#[61, 52, 48]⟩) 453 ::
 .str (⟨#[61, 52, 49]⟩) 457 ::
 .str (⟨#[61, 52, 50]⟩) 461 ::
 .str (⟨#[61, 52, 51]⟩) 465 ::
 .str (⟨#[61, 52, 52]⟩) 469 ::
 .str (⟨#[61, 52, 53]⟩) 473 ::
 .str (⟨#[61, 52, 54]⟩) 477 ::
 .str (⟨#[61, 52, 55]⟩) 481 ::
 .str (⟨#[61, 52, 56]⟩) 485 ::
 .str (⟨#[61, 52, 57]⟩) 489 ::
 .str (⟨#[61, 52, 65]⟩) 493 ::
 .str (⟨#[61, 52, 66]⟩) 497 ::
 .str (⟨#[61, 52, 67]⟩) 501 ::
 .str (⟨#[61, 52, 68]⟩) 505 ::
 .str (⟨#[61, 52, 69]⟩) 509 ::
 .str (⟨#[61, 52, 70]⟩) 513 ::
 .str (⟨#[61, 53, 48]⟩) 517 ::
 .str (⟨#[61, 53, 49]⟩) 521 ::
 .str (⟨#[61, 53, 50]⟩) 525 ::
 .str (⟨#[61, 53, 51]⟩) 529 ::
 .str (⟨#[61, 53, 52]⟩) 533 ::
 .str (⟨#[61, 53, 53]⟩) 537 ::
 .str (⟨#[61, 53, 54]⟩) 541 ::
 .str (⟨#[61, 53, 55]⟩) 545 ::
 .str (⟨#[61, 53, 56]⟩) 549 ::
 .str (⟨#[61, 53, 57]⟩) 553 ::
 .str (⟨#[61, 53, 65]⟩) 557 ::
 .str (⟨#[61, 53, 66]⟩) 561 ::
 .str (⟨#[61, 53, 67]⟩) 565 ::
 .str (⟨#[61, 53, 68]⟩) 569 ::
 .str (⟨#[61, 53, 69]⟩) 573 ::
 .str (⟨#[61, 53, 70]⟩) 577 ::
 .str (⟨#[61, 54, 48]⟩) 581 ::
 .str (⟨#[61, 54, 49]⟩) 585 ::
 .str (⟨#[61, 54, 50]⟩) 589 ::
 .str (⟨#[61, 54, 51]⟩) 593 ::
 .str (⟨#[61, 54, 52]⟩) 597 ::
 .str (⟨#[61, 54, 53]⟩) 601 ::
 .str (⟨#[61, 54, 54]⟩) 605 ::
 .str (⟨#[61, 54, 55]⟩) 609 ::
 .str (⟨#[61, 54, 56]⟩) 613 ::
 .str (⟨#[61, 54, 57]⟩) 617 ::
 .str (⟨#[61, 54, 65]⟩) 621 ::
 .str (⟨#[61, 54, 66]⟩) 625 ::
 .str (⟨#[61, 54, 67]⟩) 629 ::
 .str (⟨#[61, 54, 68]⟩) 633 ::
 .str (⟨#[61, 54, 69]⟩) 637 ::
 .str (⟨#[61, 54, 70]⟩) 641 ::
 .str (⟨#[61, 55, 48]⟩) 645 ::
 .str (⟨#[61, 55, 49]⟩) 649 ::
 .str (⟨#[61, 55, 50]⟩) 653 ::
 .str (⟨#[61, 55, 51]⟩) 657 ::
 .str (⟨#[61, 55, 52]⟩) 661 ::
 .str (⟨#[61, 55, 53]⟩) 665 ::
 .str (⟨#[61, 55, 54]⟩) 669 ::
 .str (⟨#[61, 55, 55]⟩) 673 ::
 .str (⟨#[61, 55, 56]⟩) 677 ::
 .str (⟨#[61, 55, 57]⟩) 681 ::
 .str (⟨#[61, 55, 65]⟩) 685 ::
 .str (⟨#[61, 55, 66]⟩) 689 ::
 .str (⟨#[61, 55, 67]⟩) 693 ::
 .str (⟨#[61, 55, 68]⟩) 697 ::
 .str (⟨#[61, 55, 69]⟩) 701 ::
 .str (⟨#[61, 55, 70]⟩) 705 ::
 .str (⟨#[61, 56, 48]⟩) 709 ::
 .str (⟨#[61, 56, 49]⟩) 713 ::
 .str (⟨#[61, 56, 50]⟩) 717 ::
 .str (⟨#[61, 56, 51]⟩) 721 ::
 .str (⟨#[61, 56, 52]⟩) 725 ::
 .str (⟨#[61, 56, 53]⟩) 729 ::
 .str (⟨#[61, 56, 54]⟩) 733 ::
 .str (⟨#[61, 56, 55]⟩) 737 ::
 .str (⟨#[61, 56, 56]⟩) 741 ::
 .str (⟨#[61, 56, 57]⟩) 745 ::
 .str (⟨#[61, 56, 65]⟩) 749 ::
 .str (⟨#[61, 56, 66]⟩) 753 ::
 .str (⟨#[61, 56, 67]⟩) 757 ::
 .str (⟨#[61, 56, 68]⟩) 761 ::
 .str (⟨#[61, 56, 69]⟩) 765 ::
 .str (⟨#[61, 56, 70]⟩) 769 ::
 .str (⟨#[61, 57, 48]⟩) 773 ::
 .str (⟨#[61, 57, 49]⟩) 777 ::
 .str (⟨#[61, 57, 50]⟩) 781 ::
 .str (⟨#[61, 57, 51]⟩) 785 ::
 .str (⟨#[61, 57, 52]⟩) 789 ::
 .str (⟨#[61, 57, 53]⟩) 793 ::
 .str (⟨#[61, 57, 54]⟩) 797 ::
 .str (⟨#[61, 57, 55]⟩) 801 ::
 .str (⟨#[61, 57, 56]⟩) 805 ::
 .str (⟨#[61, 57, 57]⟩) 809 ::
 .str (⟨#[61, 57, 65]⟩) 813 ::
 .str (⟨#[61, 57, 66]⟩) 817 ::
 .str (⟨#[61, 57, 67]⟩) 821 ::
 .str (⟨#[61, 57, 68]⟩) 825 ::
 .str (⟨#[61, 57, 69]⟩) 829 ::
 .str (⟨#[61, 57, 70]⟩) 833 ::
 .str (⟨#[61, 65, 48]⟩) 837 ::
 .str (⟨#[61, 65, 49]⟩) 841 ::
 .str (⟨#[61, 65, 50]⟩) 845 ::
 .str (⟨#[61, 65, 51]⟩) 849 ::
 .str (⟨#[61, 65, 52]⟩) 853 ::
 .str (⟨#[61, 65, 53]⟩) 857 ::
 .str (⟨#[61, 65, 54]⟩) 861 ::
 .str (⟨#[61, 65, 55]⟩) 865 ::
 .str (⟨#[61, 65, 56]⟩) 869 ::
 .str (⟨#[61, 65, 57]⟩) 873 ::
 .str (⟨#[61, 65, 65]⟩) 877 ::
 .str (⟨#[61, 65, 66]⟩) 881 ::
 .str (⟨#[61, 65, 67]⟩) 885 ::
 .str (⟨#[61, 65, 68]⟩) 889 ::
 .str (⟨#[61, 65, 69]⟩) 893 ::
 .str (⟨#[61, 65, 70]⟩) 897 ::
 .str (⟨#[61, 66, 48]⟩) 901 ::
 .str (⟨#[61, 66, 49]⟩) 905 ::
 .str (⟨#[61, 66, 50]⟩) 909 ::
 .str (⟨#[61, 66, 51]⟩) 913 ::
 .str (⟨#[61, 66, 52]⟩) 917 ::
 .str (⟨#[61, 66, 53]⟩) 921 ::
 .str (⟨#[61, 66, 54]⟩) 925 ::
 .str (⟨#[61, 66, 55]⟩) 929 ::
 .str (⟨#[61, 66, 56]⟩) 933 ::
 .str (⟨#[61, 66, 57]⟩) 937 ::
 .str (⟨#[61, 66, 65]⟩) 941 ::
 .str (⟨#[61, 66, 66]⟩) 945 ::
 .str (⟨#[61, 66, 67]⟩) 949 ::
 .str (⟨#[61, 66, 68]⟩) 953 ::
 .str (⟨#[61, 66, 69]⟩) 957 ::
 .str (⟨#[61, 66, 70]⟩) 961 ::
 .str (⟨#[61, 67, 48]⟩) 965 ::
 .str (⟨#[61, 67, 49]⟩) 969 ::
 .str (⟨#[61, 67, 50]⟩) 973 ::
 .str (⟨#[61, 67, 51]⟩) 977 ::
 .str (⟨#[61, 67, 52]⟩) 981 ::
 .str (⟨#[61, 67, 53]⟩) 985 ::
 .str (⟨#[61, 67, 54]⟩) 989 ::
 .str (⟨#[61, 67, 55]⟩) 993 ::
 .str (⟨#[61, 67, 56]⟩) 997 ::
 .str (⟨#[61, 67, 57]⟩) 1001 ::
 .str (⟨#[61, 67, 65]⟩) 1005 ::
 .str (⟨#[61, 67, 66]⟩) 1009 ::
 .str (⟨#[61, 67, 67]⟩) 1013 ::
 .str (⟨#[61, 67, 68]⟩) 1017 ::
 .str (⟨#[61, 67, 69]⟩) 1021 ::
 .str (⟨#[61, 67, 70]⟩) 1025 ::
 .str (⟨#[61, 68, 48]⟩) 1029 ::
 .str (⟨#[61, 68, 49]⟩) 1033 ::
 .str (⟨#[61, 68, 50]⟩) 1037 ::
 .str (⟨#[61, 68, 51]⟩) 1041 ::
 .str (⟨#[61, 68, 52]⟩) 1045 ::
 .str (⟨#[61, 68, 53]⟩) 1049 ::
 .str (⟨#[61, 68, 54]⟩) 1053 ::
 .str (⟨#[61, 68, 55]⟩) 1057 ::
 .str (⟨#[61, 68, 56]⟩) 1061 ::
 .str (⟨#[61, 68, 57]⟩) 1065 ::
 .str (⟨#[61, 68, 65]⟩) 1069 ::
 .str (⟨#[61, 68, 66]⟩) 1073 ::
 .str (⟨#[61, 68, 67]⟩) 1077 ::
 .str (⟨#[61, 68, 68]⟩) 1081 ::
 .str (⟨#[61, 68, 69]⟩) 1085 ::
 .str (⟨#[61, 68, 70]⟩) 1089 ::
 .str (⟨#[61, 69, 48]⟩) 1093 ::
 .str (⟨#[61, 69, 49]⟩) 1097 ::
 .str (⟨#[61, 69, 50]⟩) 1101 ::
 .str (⟨#[61, 69, 51]⟩) 1105 ::
 .str (⟨#[61, 69, 52]⟩) 1109 ::
 .str (⟨#[61, 69, 53]⟩) 1113 ::
 .str (⟨#[61, 69, 54]⟩) 1117 ::
 .str (⟨#[61, 69, 55]⟩) 1121 ::
 .str (⟨#[61, 69, 56]⟩) 1125 ::
 .str (⟨#[61, 69, 57]⟩) 1129 ::
 .str (⟨#[61, 69, 65]⟩) 1133 ::
 .str (⟨#[61, 69, 66]⟩) 1137 ::
 .str (⟨#[61, 69, 67]⟩) 1141 ::
 .str (⟨#[61, 69, 68]⟩) 1145 ::
 .str (⟨#[61, 69, 69]⟩) 1149 ::
 .str (⟨#[61, 69, 70]⟩) 1153 ::
 .str (⟨#[61, 70, 48]⟩) 1157 ::
 .str (⟨#[61, 70, 49]⟩) 1161 ::
 .str (⟨#[61, 70, 50]⟩) 1165 ::
 .str (⟨#[61, 70, 51]⟩) 1169 ::
 .str (⟨#[61, 70, 52]⟩) 1173 ::
 .str (⟨#[61, 70, 53]⟩) 1177 ::
 .str (⟨#[61, 70, 54]⟩) 1181 ::
 .str (⟨#[61, 70, 55]⟩) 1185 ::
 .str (⟨#[61, 70, 56]⟩) 1189 ::
 .str (⟨#[61, 70, 57]⟩) 1193 ::
 .str (⟨#[61, 70, 65]⟩) 1197 ::
 .str (⟨#[61, 70, 66]⟩) 1201 ::
 .str (⟨#[61, 70, 67]⟩) 1205 ::
 .str (⟨#[61, 70, 68]⟩) 1209 ::
 .str (⟨#[61, 70, 69]⟩) 1213 ::
 .str (⟨#[61, 70, 70]⟩) 1217 ::
 [])) 0, #[]⟩
noncomputable def hdO23v0 (P : Params) : Obj := ⟨.type "slice", none, .fields #[.none, .none, .none], #[]⟩
noncomputable def hdO24v0 (P : Params) : Obj := ⟨.type "list", none, .seq (List.toArray (.str (⟨#[61, 48, 48]⟩) 197 ::
 .str (⟨#[61, 48, 49]⟩) 201 ::
 .str (⟨#[61, 48, 50]⟩) 205 ::
 .str (⟨#[61, 48, 51]⟩) 209 ::
 .str (⟨#[61, 48, 52]⟩) 213 ::
 .str (⟨#[61, 48, 53]⟩) 217 ::
 .str (⟨#[61, 48, 54]⟩) 221 ::
 .str (⟨#[61, 48, 55]⟩) 225 ::
 .str (⟨#[61, 48, 56]⟩) 229 ::
 .str (⟨#[61, 48, 57]⟩) 233 ::
 .str (⟨#[61, 48, 65]⟩) 237 ::
 .str (⟨#[61, 48, 66]⟩) 241 ::
 .str (⟨#[61, 48, 67]⟩) 245 ::
 .str (⟨#[61, 48, 68]⟩) 249 ::
 .str (⟨#[61, 48, 69]⟩) 253 ::
 .str (⟨#[61, 48, 70]⟩) 257 ::
 .str (⟨#[61, 49, 48]⟩) 261 ::
 .str (⟨#[61, 49, 49]⟩) 265 ::
 .str (⟨#[61, 49, 50]⟩) 269 ::
 .str (⟨#[61, 49, 51]⟩) 273 ::
 .str (⟨#[61, 49, 52]⟩) 277 ::
 .str (⟨#[61, 49, 53]⟩) 281 ::
 .str (⟨#[61, 49, 54]⟩) 285 ::
 .str (⟨#[61, 49, 55]⟩) 289 ::
 .str (⟨#[61, 49, 56]⟩) 293 ::
 .str (⟨#[61, 49, 57]⟩) 297 ::
 .str (⟨#[61, 49, 65]⟩) 301 ::
 .str (⟨#[61, 49, 66]⟩) 305 ::
 .str (⟨#[61, 49, 67]⟩) 309 ::
 .str (⟨#[61, 49, 68]⟩) 313 ::
 .str (⟨#[61, 49, 69]⟩) 317 ::
 .str (⟨#[61, 49, 70]⟩) 321 ::
 .str (⟨#[61, 50, 48]⟩) 325 ::
 .str (⟨#[61, 50, 49]⟩) 329 ::
 .str (⟨#[61, 50, 50]⟩) 333 ::
 .str (⟨#[61, 50, 51]⟩) 337 ::
 .str (⟨#[61, 50, 52]⟩) 341 ::
 .str (⟨#[61, 50, 53]⟩) 345 ::
 .str (⟨#[61, 50, 54]⟩) 349 ::
 .str (⟨#[61, 50, 55]⟩) 353 ::
 .str (⟨#[61, 50, 56]⟩) 357 ::
 .str (⟨#[61, 50, 57]⟩) 361 ::
 .str (⟨#[61, 50, 65]⟩) 365 ::
 .str (⟨#[61, 50, 66]⟩) 369 ::
 .str (⟨#[61, 50, 67]⟩) 373 ::
 .str (⟨#[61, 50, 68]⟩) 377 ::
 .str (⟨#[61, 50, 69]⟩) 381 ::
 .str (⟨#[61, 50, 70]⟩) 385 ::
 .str (⟨#[61, 51, 48]⟩) 389 ::
 .str (⟨#[61, 51, 49]⟩) 393 ::
 .str (⟨#[61, 51, 50]⟩) 397 ::
 .str (⟨#[61, 51, 51]⟩) 401 ::
 .str (⟨#[61, 51, 52]⟩) 405 ::
 .str (⟨#[61, 51, 53]⟩) 409 ::
 .str (⟨#[61, 51, 54]⟩) 413 ::
 .str (⟨#[61, 51, 55]⟩) 417 ::
 .str (⟨#[61, 51, 56]⟩) 421 ::
 .str (⟨#[61, 51, 57]⟩) 425 ::
 .str (⟨#[61, 51, 65]⟩) 429 ::
 .str (⟨#[61, 51, 66]⟩) 433 ::
 .str (⟨#[61, 51, 67]⟩) 437 ::
 .str (⟨#[61, 51, 68]⟩) 441 ::
 .str (⟨#[61, 51, 69]⟩) 445 ::
 .str (⟨#[61, 51, 70]⟩) 449 ::
 .str (⟨#[61, 52, 48]⟩) 453 ::
 .str (⟨#[61, 52, 49]⟩) 457 ::
 .str (⟨#[61, 52, 50]⟩) 461 ::
 .str (⟨#[61, 52, 51]⟩) 465 ::
 .str (⟨#[61, 52, 52]⟩) 469 ::
 .str (⟨#[61, 52, 53]⟩) 473 ::
 .str (⟨#[61, 52, 54]⟩) 477 ::
 .str (⟨#[61, 52, 55]⟩) 481 ::
 .str (⟨#[61, 52, 56]⟩) 485 ::
 .str (⟨#[61, 52, 57]⟩) 489 ::
 .str (⟨#[61, 52, 65]⟩) 493 ::
 .str (⟨#[61, 52, 66]⟩) 497 ::
 .str (⟨#[61, 52, 67]⟩) 501 ::
 .str (⟨#[61, 52, 68]⟩) 505 ::
 .str (⟨#[61, 52, 69]⟩) 509 ::
 .str (⟨#[61, 52, 70]⟩) 513 ::
 .str (⟨#[61, 53, 48]⟩) 517 ::
 .str (⟨#[61, 53, 49]⟩) 521 ::
 .str (⟨#[61, 53, 50]⟩) 525 ::
 .str (⟨#[61, 53, 51]⟩) 529 ::
 .str (⟨#[61, 53, 52]⟩) 533 ::
 .str (⟨#[61, 53, 53]⟩) 537 ::
 .str (⟨#[61, 53, 54]⟩) 541 ::
 .str (⟨#[61, 53, 55]⟩) 545 ::
 .str (⟨#[61, 53, 56]⟩) 549 ::
 .str (⟨#[61, 53, 57]⟩) 553 ::
 .str (⟨#[61, 53, 65]⟩) 557 ::
 .str (⟨#[61, 53, 66]⟩) 561 ::
 .str (⟨#[61, 53, 67]⟩) 565 ::
 .str (⟨#[61, 53, 68]⟩) 569 ::
 .str (⟨#[61, 53, 69]⟩) 573 ::
 .str (⟨#[61, 53, 70]⟩) 577 ::
 .str (⟨#[61, 54, 48]⟩) 581 ::
 .str (⟨#[61, 54, 49]⟩) 585 ::
 .str (⟨#[61, 54, 50]⟩) 589 ::
 .str (⟨#[61, 54, 51]⟩) 593 ::
 .str (⟨#[61, 54, 52]⟩) 597 ::
 .str (⟨#[61, 54, 53]⟩) 601 ::
 .str (⟨#[61, 54, 54]⟩) 605 ::
 .str (⟨#[61, 54, 55]⟩) 609 ::
 .str (⟨#[61, 54, 56]⟩) 613 ::
 .str (⟨#[61, 54, 57]⟩) 617 ::
 .str (⟨#[61, 54, 65]⟩) 621 ::
 .str (⟨#[61, 54, 66]⟩) 625 ::
 .str (⟨#[61, 54, 67]⟩) 629 ::
 .str (⟨#[61, 54, 68]⟩) 633 ::
 .str (⟨#[61, 54, 69]⟩) 637 ::
 .str (⟨#[61, 54, 70]⟩) 641 ::
 .str (⟨#[61, 55, 48]⟩) 645 ::
 .str (⟨#[61, 55, 49]⟩) 649 ::
 .str (⟨#[61, 55, 50]⟩) 653 ::
 .str (⟨#[61, 55, 51]⟩) 657 ::
 .str (⟨#[61, 55, 52]⟩) 661 ::
 .str (⟨#[61, 55, 53]⟩) 665 ::
 .str (⟨#[61, 55, 54]⟩) 669 ::
 .str (⟨#[61, 55, 55]⟩) 673 ::
 .str (⟨#[61, 55, 56]⟩) 677 ::
 .str (⟨#[61, 55, 57]⟩) 681 ::
 .str (⟨#[61, 55, 65]⟩) 685 ::
 .str (⟨#[61, 55, 66]⟩) 689 ::
 .str (⟨#[61, 55, 67]⟩) 693 ::
 .str (⟨#[61, 55, 68]⟩) 697 ::
 .str (⟨#[61, 55, 69]⟩) 701 ::
 .str (⟨#[61, 55, 70]⟩) 705 ::
 .str (⟨#[61, 56, 48]⟩) 709 ::
 .str (⟨#[61, 56, 49]⟩) 713 ::
 .str (⟨#[61, 56, 50]⟩) 717 ::
 .str (⟨#[61, 56, 51]⟩) 721 ::
 .str (⟨#[61, 56, 52]⟩) 725 ::
 .str (⟨#[61, 56, 53]⟩) 729 ::
 .str (⟨#[61, 56, 54]⟩) 733 ::
 .str (⟨#[61, 56, 55]⟩) 737 ::
 .str (⟨#[61, 56, 56]⟩) 741 ::
 .str (⟨#[61, 56, 57]⟩) 745 ::
 .str (⟨#[61, 56, 65]⟩) 749 ::
 .str (⟨#[61, 56, 66]⟩) 753 ::
 .str (⟨#[61, 56, 67]⟩) 757 ::
 .str (⟨#[61, 56, 68]⟩) 761 ::
 .str (⟨#[61, 56, 69]⟩) 765 ::
 .str (⟨#[61, 56, 70]⟩) 769 ::
 .str (⟨#[61, 57, 48]⟩) 773 ::
 .str (⟨#[61, 57, 49]⟩) 777 ::
 .str (⟨#[61, 57, 50]⟩) 781 ::
 .str (⟨#[61, 57, 51]⟩) 785 ::
 .str (⟨#[61, 57, 52]⟩) 789 ::
 .str (⟨#[61, 57, 53]⟩) 793 ::
 .str (⟨#[61, 57, 54]⟩) 797 ::
 .str (⟨#[61, 57, 55]⟩) 801 ::
 .str (⟨#[61, 57, 56]⟩) 805 ::
 .str (⟨#[61, 57, 57]⟩) 809 ::
 .str (⟨#[61, 57, 65]⟩) 813 ::
 .str (⟨#[61, 57, 66]⟩) 817 ::
 .str (⟨#[61, 57, 67]⟩) 821 ::
 .str (⟨#[61, 57, 68]⟩) 825 ::
 .str (⟨#[61, 57, 69]⟩) 829 ::
 .str (⟨#[61, 57, 70]⟩) 833 ::
 .str (⟨#[61, 65, 48]⟩) 837 ::
 .str (⟨#[61, 65, 49]⟩) 841 ::
 .str (⟨#[61, 65, 50]⟩) 845 ::
 .str (⟨#[61, 65, 51]⟩) 849 ::
 .str (⟨#[61, 65, 52]⟩) 853 ::
 .str (⟨#[61, 65, 53]⟩) 857 ::
 .str (⟨#[61, 65, 54]⟩) 861 ::
 .str (⟨#[61, 65, 55]⟩) 865 ::
 .str (⟨#[61, 65, 56]⟩) 869 ::
 .str (⟨#[61, 65, 57]⟩) 873 ::
 .str (⟨#[61, 65, 65]⟩) 877 ::
 .str (⟨#[61, 65, 66]⟩) 881 ::
 .str (⟨#[61, 65, 67]⟩) 885 ::
 .str (⟨#[61, 65, 68]⟩) 889 ::
 .str (⟨#[61, 65, 69]⟩) 893 ::
 .str (⟨#[61, 65, 70]⟩) 897 ::
 .str (⟨#[61, 66, 48]⟩) 901 ::
 .str (⟨#[61, 66, 49]⟩) 905 ::
 .str (⟨#[61, 66, 50]⟩) 909 ::
 .str (⟨#[61, 66, 51]⟩) 913 ::
 .str (⟨#[61, 66, 52]⟩) 917 ::
 .str (⟨#[61, 66, 53]⟩) 921 ::
 .str (⟨#[61, 66, 54]⟩) 925 ::
 .str (⟨#[61, 66, 55]⟩) 929 ::
 .str (⟨#[61, 66, 56]⟩) 933 ::
 .str (⟨#[61, 66, 57]⟩) 937 ::
 .str (⟨#[61, 66, 65]⟩) 941 ::
 .str (⟨#[61, 66, 66]⟩) 945 ::
 .str (⟨#[61, 66, 67]⟩) 949 ::
 .str (⟨#[61, 66, 68]⟩) 953 ::
 .str (⟨#[61, 66, 69]⟩) 957 ::
 .str (⟨#[61, 66, 70]⟩) 961 ::
 .str (⟨#[61, 67, 48]⟩) 965 ::
 .str (⟨#[61, 67, 49]⟩) 969 ::
 .str (⟨#[61, 67, 50]⟩) 973 ::
 .str (⟨#[61, 67, 51]⟩) 977 ::
 .str (⟨#[61, 67, 52]⟩) 981 ::
 .str (⟨#[61, 67, 53]⟩) 985 ::
 .str (⟨#[61, 67, 54]⟩) 989 ::
 .str (⟨#[61, 67, 55]⟩) 993 ::
 .str (⟨#[61, 67, 56]⟩) 997 ::
 .str (⟨#[61, 67, 57]⟩) 1001 ::
 .str (⟨#[61, 67, 65]⟩) 1005 ::
 .str (⟨#[61, 67, 66]⟩) 1009 ::
 .str (⟨#[61, 67, 67]⟩) 1013 ::
 .str (⟨#[61, 67, 68]⟩) 1017 ::
 .str (⟨#[61, 67, 69]⟩) 1021 ::
 .str (⟨#[61, 67, 70]⟩) 1025 ::
 .str (⟨#[61, 68, 48]⟩) 1029 ::
 .str (⟨#[61, 68, 49]⟩) 1033 ::
 .str (⟨#[61, 68, 50]⟩) 1037 ::
 .str (⟨#[61, 68, 51]⟩) 1041 ::
 .str (⟨#[61, 68, 52]⟩) 1045 ::
 .str (⟨#[61, 68, 53]⟩) 1049 ::
 .str (⟨#[61, 68, 54]⟩) 1053 ::
 .str (⟨#[61, 68, 55]⟩) 1057 ::
 .str (⟨#[61, 68, 56]⟩) 1061 ::
 .str (⟨#[61, 68, 57]⟩) 1065 ::
 .str (⟨#[61, 68, 65]⟩) 1069 ::
 .str (⟨#[61, 68, 66]⟩) 1073 ::
 .str (⟨#[61, 68, 67]⟩) 1077 ::
 .str (⟨#[61, 68, 68]⟩) 1081 ::
 .str (⟨#[61, 68, 69]⟩) 1085 ::
 .str (⟨#[61, 68, 70]⟩) 1089 ::
 .str (⟨#[61, 69, 48]⟩) 1093 ::
 .str (⟨#[61, 69, 49]⟩) 1097 ::
 .str (⟨#[61, 69, 50]⟩) 1101 ::
 .str (⟨#[61, 69, 51]⟩) 1105 ::
 .str (⟨#[61, 69, 52]⟩) 1109 ::
 .str (⟨#[61, 69, 53]⟩) 1113 ::
 .str (⟨#[61, 69, 54]⟩) 1117 ::
 .str (⟨#[61, 69, 55]⟩) 1121 ::
 .str (⟨#[61, 69, 56]⟩) 1125 ::
 .str (⟨#[61, 69, 57]⟩) 1129 ::
 .str (⟨#[61, 69, 65]⟩) 1133 ::
 .str (⟨#[61, 69, 66]⟩) 1137 ::
 .str (⟨#[61, 69, 67]⟩) 1141 ::
 .str (⟨#[61, 69, 68]⟩) 1145 ::
 .str (⟨#[61, 69, 69]⟩) 1149 ::
 .str (⟨#[61, 69, 70]⟩) 1153 ::
 .str (⟨#[61, 70, 48]⟩) 1157 ::
 .str (⟨#[61, 70, 49]⟩) 1161 ::
 .str (⟨#[61, 70, 50]⟩) 1165 ::
 .str (⟨#[61, 70, 51]⟩) 1169 ::
 .str (⟨#[61, 70, 52]⟩) 1173 ::
 .str (⟨#[61, 70, 53]⟩) 1177 ::
 .str (⟨#[61, 70, 54]⟩) 1181 ::
 .str (⟨#[61, 70, 55]⟩) 1185 ::
 .str (⟨#[61, 70, 56]⟩) 1189 ::
 .str (⟨#[61, 70, 57]⟩) 1193 ::
 .str (⟨#[61, 70, 65]⟩) 1197 ::
 .str (⟨#[61, 70, 66]⟩) 1201 ::
 .str (⟨#[61, 70, 67]⟩) 1205 ::
 .str (⟨#[61, 70, 68]⟩) 1209 ::
 .str (⟨#[61, 70, 69]⟩) 1213 ::
 .str (⟨#[61, 70, 70]⟩) 1217 ::
 [])) 0, #[]⟩
noncomputable def hdS2t (P : Params) : BT := (.node (PySem.W.boot_o_0 P) (.node (PySem.W.boot_o_1 P) (.node (hdO3v3 P) (.node (PySem.W.boot_o_7 P) (.node (hdO15v1 P) .nil .nil) (.node (hdO23v0 P) .nil .nil)) (.node (hdO11v0 P) (.node (hdO19v0 P) .nil .nil) .nil)) (.node (PySem.W.boot_o_5 P) (.node (PySem.W.boot_o_9 P) (.node (hdO17v1 P) .nil .nil) .nil) (.node (hdO13v0 P) (.node (hdO21v0 P) .nil .nil) .nil))) (.node (PySem.W.boot_o_2 P) (.node (PySem.W.boot_o_4 P) (.node (PySem.W.boot_o_8 P) (.node (hdO16v1 P) .nil .nil) (.node (hdO24v0 P) .nil .nil)) (.node (hdO12v0 P) (.node (hdO20v0 P) .nil .nil) .nil)) (.node (PySem.W.boot_o_6 P) (.node (PySem.W.boot_o_10 P) (.node (hdO18v1 P) .nil .nil) .nil) (.node (hdO14v0 P) (.node (hdO22v0 P) .nil .nil) .nil))))
noncomputable def hdS2 (w : World) (os : OsState) : SharedT := ⟨hdS2t w.params, 25, {}, #[], ⟨0, 0, 0, 0⟩, 1236, os⟩
theorem hdP2 (w : World) (os : OsState) : (hdRun w 133 (hdS1 w os) (hdTh (hdSts 3 8) ⟨3, 0, 3, 11⟩)) = some (.next, hdS2 w os, hdC, ⟨11, 0, 11, 8⟩) := by kernel_rfl
theorem hdR2 (w : World) (os : OsState) : hdRunS w 133 (hdS1 w os).abs (piecesOf (hdSts 3 8) hdEnv hdC ⟨3, 0, 3, 11⟩ hdF) = some (.next, (hdS2 w os).abs, hdC, ⟨11, 0, 11, 8⟩) := hdOf (hdP2 w os)
noncomputable def hdO3v4 (P : Params) : Obj := ⟨.type "dict", none, .dict #[⟨PyData.keyHash P (⟨#[95, 95, 110, 97, 109, 101, 95, 95]⟩), .str (⟨#[95, 95, 110, 97, 109, 101, 95, 95]⟩) 165, .str (⟨#[99, 112, 121, 51, 49, 51, 46, 101, 109, 97, 105, 108, 46, 113, 117, 111, 112, 114, 105, 109, 105, 109, 101]⟩) 1234⟩, ⟨PyData.keyHash P (⟨#[95, 95, 100, 111, 99, 95, 95]⟩), .str (⟨#[95, 95, 100, 111, 99, 95, 95]⟩) 166, .none⟩, ⟨PyData.keyHash P (⟨#[95, 95, 112, 97, 99, 107, 97, 103, 101, 95, 95]⟩), .str (⟨#[95, 95, 112, 97, 99, 107, 97, 103, 101, 95, 95]⟩) 167, .none⟩, ⟨PyData.keyHash P (⟨#[95, 95, 108, 111, 97, 100, 101, 114, 95, 95]⟩), .str (⟨#[95, 95, 108, 111, 97, 100, 101, 114, 95, 95]⟩) 168, .builtin "__main__.__loader__#opaque"⟩, ⟨PyData.keyHash P (⟨#[95, 95, 115, 112, 101, 99, 95, 95]⟩), .str (⟨#[95, 95, 115, 112, 101, 99, 95, 95]⟩) 169, .none⟩, ⟨PyData.keyHash P (⟨#[95, 95, 97, 110, 110, 111, 116, 97, 116, 105, 111, 110, 115, 95, 95]⟩), .str (⟨#[95, 95, 97, 110, 110, 111, 116, 97, 116, 105, 111, 110, 115, 95, 95]⟩) 170, .ref 6⟩, ⟨PyData.keyHash P (⟨#[95, 95, 98, 117, 105, 108, 116, 105, 110, 115, 95, 95]⟩), .str (⟨#[95, 95, 98, 117, 105, 108, 116, 105, 110, 115, 95, 95]⟩) 171, .ref 4⟩, ⟨PyData.keyHash P (⟨#[95, 95, 102, 105, 108, 101, 95, 95]⟩), .str (⟨#[95, 95, 102, 105, 108, 101, 95, 95]⟩) 173, .str (⟨#[47, 99, 108, 97, 105, 109, 47, 99, 117, 116, 46, 112, 121]⟩) 172⟩, ⟨PyData.keyHash P (⟨#[95, 95, 99, 97, 99, 104, 101, 100, 95, 95]⟩), .str (⟨#[95, 95, 99, 97, 99, 104, 101, 100, 95, 95]⟩) 174, .none⟩, ⟨PyData.keyHash P (⟨#[67, 82, 76, 70]⟩), .str (⟨#[67, 82, 76, 70]⟩) 188, .str (⟨#[13, 10]⟩) 187⟩, ⟨PyData.keyHash P (⟨#[78, 76]⟩), .str (⟨#[78, 76]⟩) 190, .str (⟨#[10]⟩) 189⟩, ⟨PyData.keyHash P (⟨#[95, 81, 85, 79, 80, 82, 73, 95, 77, 65, 80]⟩), .str (⟨#[95, 81, 85, 79, 80, 82, 73, 95, 77, 65, 80]⟩) 1218, .ref 17⟩, ⟨PyData.keyHash P (⟨#[95, 81, 85, 79, 80, 82, 73, 95, 72, 69, 65, 68, 69, 82, 95, 77, 65, 80]⟩), .str (⟨#[95, 81, 85, 79, 80, 82, 73, 95, 72, 69, 65, 68, 69, 82, 95, 77, 65, 80]⟩) 1219, .ref 22⟩, ⟨PyData.keyHash P (⟨#[95, 81, 85, 79, 80, 82, 73, 95, 66, 79, 68, 89, 95, 77, 65, 80]⟩), .str (⟨#[95, 81, 85, 79, 80, 82, 73, 95, 66, 79, 68, 89, 95, 77, 65, 80]⟩) 1220, .ref 24⟩, ⟨PyData.keyHash P (⟨#[97, 115, 99, 105, 105, 95, 108, 111, 119, 101, 114, 99, 97, 115, 101]⟩), .str (⟨#[97, 115, 99, 105, 105, 95, 108, 111, 119, 101, 114, 99, 97, 115, 101]⟩) 1222, .str (⟨#[97, 98, 99, 100, 101, 102, 103, 104, 105, 106, 107, 108, 109, 110, 111, 112, 113, 114, 115, 116, 117, 118, 119, 120, 121, 122]⟩) 1221⟩, ⟨PyData.keyHash P (⟨#[97, 115, 99, 105, 105, 95, 117, 112, 112, 101, 114, 99, 97, 115, 101]⟩), .str (⟨#[97, 115, 99, 105, 105, 95, 117, 112, 112, 101, 114, 99, 97, 115, 101]⟩) 1224, .str (⟨#[65, 66, 67, 68, 69, 70, 71, 72, 73, 74, 75, 76, 77, 78, 79, 80, 81, 82, 83, 84, 85, 86, 87, 88, 89, 90]⟩) 1223⟩, ⟨PyData.keyHash P (⟨#[97, 115, 99, 105, 105, 95, 108, 101, 116, 116, 101, 114, 115]⟩), .str (⟨#[97, 115, 99, 105, 105, 95, 108, 101, 116, 116, 101, 114, 115]⟩) 1226, .str (⟨#[97, 98, 99, 100, 101, 102, 103, 104, 105, 106, 107, 108, 109, 110, 111, 112, 113, 114, 115, 116, 117, 118, 119, 120, 121, 122, 65, 66, 67, 68, 69, 70, 71, 72, 73, 74, 75, 76, 77, 78, 79, 80, 81, 82, 83, 84, 85, 86, 87, 88, 89, 90]⟩) 1225⟩, ⟨PyData.keyHash P (⟨#[100, 105, 103, 105, 116, 115]⟩), .str (⟨#[100, 105, 103, 105, 116, 115]⟩) 1228, .str (⟨#[48, 49, 50, 51, 52, 53, 54, 55, 56, 57]⟩) 1227⟩, ⟨PyData.keyHash P (⟨#[104, 101, 120, 100, 105, 103, 105, 116, 115]⟩), .str (⟨#[104, 101, 120, 100, 105, 103, 105, 116, 115]⟩) 1233, .str (⟨#[48, 49, 50, 51, 52, 53, 54, 55, 56, 57, 97, 98, 99, 100, 101, 102, 65, 66, 67, 68, 69, 70]⟩) 1232⟩, ⟨PyData.keyHash P (⟨#[99]⟩), .str (⟨#[99]⟩) 1244, .int 57 1441⟩] 20, #[]⟩
noncomputable def hdO22v1 (P : Params) : Obj := ⟨.type "list", none, .seq (List.toArray (.str (⟨#[61, 48, 48]⟩) 197 ::
 .str (⟨#[61, 48, 49]⟩) 201 ::
 .str (⟨#[61, 48, 50]⟩) 205 ::
 .str (⟨#[61, 48, 51]⟩) 209 ::
 .str (⟨#[61, 48, 52]⟩) 213 ::
 .str (⟨#[61, 48, 53]⟩) 217 ::
 .str (⟨#[61, 48, 54]⟩) 221 ::
 .str (⟨#[61, 48, 55]⟩) 225 ::
 .str (⟨#[61, 48, 56]⟩) 229 ::
 .str (⟨#[61, 48, 57]⟩) 233 ::
 .str (⟨#[61, 48, 65]⟩) 237 ::
 .str (⟨#[61, 48, 66]⟩) 241 ::
 .str (⟨#[61, 48, 67]⟩) 245 ::
 .str (⟨#[61, 48, 68]⟩) 249 ::
 .str (⟨#[61, 48, 69]⟩) 253 ::
 .str (⟨#[61, 48, 70]⟩) 257 ::
 .str (⟨#[61, 49, 48]⟩) 261 ::
 .str (⟨#[61, 49, 49]⟩) 265 ::
 .str (⟨#[61, 49, 50]⟩) 269 ::
 .str (⟨#[61, 49, 51]⟩) 273 ::
 .str (⟨#[61, 49, 52]⟩) 277 ::
 .str (⟨#[61, 49, 53]⟩) 281 ::
 .str (⟨#[61, 49, 54]⟩) 285 ::
 .str (⟨#[61, 49, 55]⟩) 289 ::
 .str (⟨#[61, 49, 56]⟩) 293 ::
 .str (⟨#[61, 49, 57]⟩) 297 ::
 .str (⟨#[61, 49, 65]⟩) 301 ::
 .str (⟨#[61, 49, 66]⟩) 305 ::
 .str (⟨#[61, 49, 67]⟩) 309 ::
 .str (⟨#[61, 49, 68]⟩) 313 ::
 .str (⟨#[61, 49, 69]⟩) 317 ::
 .str (⟨#[61, 49, 70]⟩) 321 ::
 .str (⟨#[61, 50, 48]⟩) 325 ::
 .str (⟨#[33]⟩) 1248 ::
 .str (⟨#[61, 50, 50]⟩) 333 ::
 .str (⟨#[61, 50, 51]⟩) 337 ::
 .str (⟨#[61, 50, 52]⟩) 341 ::
 .str (⟨#[61, 50, 53]⟩) 345 ::
 .str (⟨#[61, 50, 54]⟩) 349 ::
 .str (⟨#[61, 50, 55]⟩) 353 ::
 .str (⟨#[61, 50, 56]⟩) 357 ::
 .str (⟨#[61, 50, 57]⟩) 361 ::
 .str (⟨#[42]⟩) 1251 ::
 .str (⟨#[43]⟩) 1254 ::
 .str (⟨#[61, 50, 67]⟩) 373 ::
 .str (⟨#[45]⟩) 1245 ::
 .str (⟨#[61, 50, 69]⟩) 381 ::
 .str (⟨#[47]⟩) 1257 ::
 .str (⟨#[48]⟩) 1416 ::
 .str (⟨#[49]⟩) 1419 ::
 .str (⟨#[50]⟩) 1422 ::
 .str (⟨#[51]⟩) 1425 ::
 .str (⟨#[52]⟩) 1428 ::
 .str (⟨#[53]⟩) 1431 ::
 .str (⟨#[54]⟩) 1434 ::
 .str (⟨#[55]⟩) 1437 ::
 .str (⟨#[56]⟩) 1440 ::
 .str (⟨#[57]⟩) 1443 ::
 .str (⟨#[61, 51, 65]⟩) 429 ::
 .str (⟨#[61, 51, 66]⟩) 433 ::
 .str (⟨#[61, 51, 67]⟩) 437 ::
 .str (⟨#[61, 51, 68]⟩) 441 ::
 .str (⟨#[61, 51, 69]⟩) 445 ::
 .str (⟨#[61, 51, 70]⟩) 449 ::
 .str (⟨#[61, 52, 48]⟩) 453 ::
 .str (⟨#[65]⟩) 1338 ::
 .str (⟨#[66]⟩) 1341 ::
 .str (⟨#[67]⟩) 1344 ::
 .str (⟨#[68]⟩) 1347 ::
 .str (⟨#[69]⟩) 1350 ::
 .str (⟨#[70]⟩) 1353 ::
 .str (⟨#[71]⟩) 1356 ::
 .str (⟨#[72]⟩) 1359 ::
 .str (⟨#[73]⟩) 1362 ::
 .str (⟨#[74]⟩) 1365 ::
 .str (⟨#[75]⟩) 1368 ::
 .str (⟨#[76]⟩) 1371 ::
 .str (⟨#[77]⟩) 1374 ::
 .str (⟨#[78]⟩) 1377 ::
 .str (⟨#[79]⟩) 1380 ::
 .str (⟨#[80]⟩) 1383 ::
 .str (⟨#[81]⟩) 1386 ::
 .str (⟨#[82]⟩) 1389 ::
 .str (⟨#[83]⟩) 1392 ::
 .str (⟨#[84]⟩) 1395 ::
 .str (⟨#[85]⟩) 1398 ::
 .str (⟨#[86]⟩) 1401 ::
 .str (⟨#[87]⟩) 1404 ::
 .str (⟨#[88]⟩) 1407 ::
 .str (⟨#[89]⟩) 1410 ::
 .str (⟨#[90]⟩) 1413 ::
 .str (⟨#[61, 53, 66]⟩) 561 ::
 .str (⟨#[61, 53, 67]⟩) 565 ::
 .str (⟨#[61, 53, 68]⟩) 569 ::
 .str (⟨#[61, 53, 69]⟩) 573 ::
 .str (⟨#[61, 53, 70]⟩) 577 ::
 .str (⟨#[61, 54, 48]⟩) 581 ::
 .str (⟨#[97]⟩) 1260 ::
 .str (⟨#[98]⟩) 1263 ::
 .str (⟨#[99]⟩) 1266 ::
 .str (⟨#[100]⟩) 1269 ::
 .str (⟨#[101]⟩) 1272 ::
 .str (⟨#[102]⟩) 1275 ::
 .str (⟨#[103]⟩) 1278 ::
 .str (⟨#[104]⟩) 1281 ::
 .str (⟨#[105]⟩) 1284 ::
 .str (⟨#[106]⟩) 1287 ::
 .str (⟨#[107]⟩) 1290 ::
 .str (⟨#[108]⟩) 1293 ::
 .str (⟨#[109]⟩) 1296 ::
 .str (⟨#[110]⟩) 1299 ::
 .str (⟨#[111]⟩) 1302 ::
 .str (⟨#[112]⟩) 1305 ::
 .str (⟨#[113]⟩) 1308 ::
 .str (⟨#[114]⟩) 1311 ::
 .str (⟨#[115]⟩) 1314 ::
 .str (⟨#[116]⟩) 1317 ::
 .str (⟨#[117]⟩) 1320 ::
 .str (⟨#[118]⟩) 1323 ::
 .str (⟨#[119]⟩) 1326 ::
 .str (⟨#[120]⟩) 1329 ::
 .str (⟨#[121]⟩) 1332 ::
 .str (⟨#[122]⟩) 1335 ::
 .str (⟨#[61, 55, 66]⟩) 689 ::
 .str (⟨#[61, 55, 67]⟩) 693 ::
 .str (⟨#[61, 55, 68]⟩) 697 ::
 .str (⟨#[61, 55, 69]⟩) 701 ::
 .str (⟨#[61, 55, 70]⟩) 705 ::
 .str (⟨#[61, 56, 48]⟩) 709 ::
 .str (⟨#[61, 56, 49]⟩) 713 ::
 .str (⟨#[61, 56, 50]⟩) 717 ::
 .str (⟨#[61, 56, 51]⟩) 721 ::
 .str (⟨#[61, 56, 52]⟩) 725 ::
 .str (⟨#[61, 56, 53]⟩) 729 ::
 .str (⟨#[61, 56, 54]⟩) 733 ::
 .str (⟨#[61, 56, 55]⟩) 737 ::
 .str (⟨#[61, 56, 56]⟩) 741 ::
 .str (⟨#[61, 56, 57]⟩) 745 ::
 .str (⟨#[61, 56, 65]⟩) 749 ::
 .str (⟨#[61, 56, 66]⟩) 753 ::
 .str (⟨#[61, 56, 67]⟩) 757 ::
 .str (⟨#[61, 56, 68]⟩) 761 ::
 .str (⟨#[61, 56, 69]⟩) 765 ::
 .str (⟨#[61, 56, 70]⟩) 769 ::
 .str (⟨#[61, 57, 48]⟩) 773 ::
 .str (⟨#[61, 57, 49]⟩) 777 ::
 .str (⟨#[61, 57, 50]⟩) 781 ::
 .str (⟨#[61, 57, 51]⟩) 785 ::
 .str (⟨#[61, 57, 52]⟩) 789 ::
 .str (⟨#[61, 57, 53]⟩) 793 ::
 .str (⟨#[61, 57, 54]⟩) 797 ::
 .str (⟨#[61, 57, 55]⟩) 801 ::
 .str (⟨#[61, 57, 56]⟩) 805 ::
 .str (⟨#[61, 57, 57]⟩) 809 ::
 .str (⟨#[61, 57, 65]⟩) 813 ::
 .str (⟨#[61, 57, 66]⟩) 817 ::
 .str (⟨#[61, 57, 67]⟩) 821 ::
 .str (⟨#[61, 57, 68]⟩) 825 ::
 .str (⟨#[61, 57, 69]⟩) 829 ::
 .str (⟨#[61, 57, 70]⟩) 833 ::
 .str (⟨#[61, 65, 48]⟩) 837 ::
 .str (⟨#[61, 65, 49]⟩) 841 ::
 .str (⟨#[61, 65, 50]⟩) 845 ::
 .str (⟨#[61, 65, 51]⟩) 849 ::
 .str (⟨#[61, 65, 52]⟩) 853 ::
 .str (⟨#[61, 65, 53]⟩) 857 ::
 .str (⟨#[61, 65, 54]⟩) 861 ::
 .str (⟨#[61, 65, 55]⟩) 865 ::
 .str (⟨#[61, 65, 56]⟩) 869 ::
 .str (⟨#[61, 65, 57]⟩) 873 ::
 .str (⟨#[61, 65, 65]⟩) 877 ::
 .str (⟨#[61, 65, 66]⟩) 881 ::
 .str (⟨#[61, 65, 67]⟩) 885 ::
 .str (⟨#[61, 65, 68]⟩) 889 ::
 .str (⟨#[61, 65, 69]⟩) 893 ::
 .str (⟨#[61, 65, 70]⟩) 897 ::
 .str (⟨#[61, 66, 48]⟩) 901 ::
 .str (⟨#[61, 66, 49]⟩) 905 ::
 .str (⟨#[61, 66, 50]⟩) 909 ::
 .str (⟨#[61, 66, 51]⟩) 913 ::
 .str (⟨#[61, 66, 52]⟩) 917 ::
 .str (⟨#[61, 66, 53]⟩) 921 ::
 .str (⟨#[61, 66, 54]⟩) 925 ::
 .str (⟨#[61, 66, 55]⟩) 929 ::
 .str (⟨#[61, 66, 56]⟩) 933 ::
 .str (⟨#[61, 66, 57]⟩) 937 ::
 .str (⟨#[61, 66, 65]⟩) 941 ::
 .str (⟨#[61, 66, 66]⟩) 945 ::
 .str (⟨#[61, 66, 67]⟩) 949 ::
 .str (⟨#[61, 66, 68]⟩) 953 ::
 .str (⟨#[61, 66, 69]⟩) 957 ::
 .str (⟨#[61, 66, 70]⟩) 961 ::
 .str (⟨#[61, 67, 48]⟩) 965 ::
 .str (⟨#[61, 67, 49]⟩) 969 ::
 .str (⟨#[61, 67, 50]⟩) 973 ::
 .str (⟨#[61, 67, 51]⟩) 977 ::
 .str (⟨#[61, 67, 52]⟩) 981 ::
 .str (⟨#[61, 67, 53]⟩) 985 ::
 .str (⟨#[61, 67, 54]⟩) 989 ::
 .str (⟨#[61, 67, 55]⟩) 993 ::
 .str (⟨#[61, 67, 56]⟩) 997 ::
 .str (⟨#[61, 67, 57]⟩) 1001 ::
 .str (⟨#[61, 67, 65]⟩) 1005 ::
 .str (⟨#[61, 67, 66]⟩) 1009 ::
 .str (⟨#[61, 67, 67]⟩) 1013 ::
 .str (⟨#[61, 67, 68]⟩) 1017 ::
 .str (⟨#[61, 67, 69]⟩) 1021 ::
 .str (⟨#[61, 67, 70]⟩) 1025 ::
 .str (⟨#[61, 68, 48]⟩) 1029 ::
 .str (⟨#[61, 68, 49]⟩) 1033 ::
 .str (⟨#[61, 68, 50]⟩) 1037 ::
 .str (⟨#[61, 68, 51]⟩) 1041 ::
 .str (⟨#[61, 68, 52]⟩) 1045 ::
 .str (⟨#[61, 68, 53]⟩) 1049 ::
 .str (⟨#[61, 68, 54]⟩) 1053 ::
 .str (⟨#[61, 68, 55]⟩) 1057 ::
 .str (⟨#[61, 68, 56]⟩) 1061 ::
 .str (⟨#[61, 68, 57]⟩) 1065 ::
 .str (⟨#[61, 68, 65]⟩) 1069 ::
 .str (⟨#[61, 68, 66]⟩) 1073 ::
 .str (⟨#[61, 68, 67]⟩) 1077 ::
 .str (⟨#[61, 68, 68]⟩) 1081 ::
 .str (⟨#[61, 68, 69]⟩) 1085 ::
 .str (⟨#[61, 68, 70]⟩) 1089 ::
 .str (⟨#[61, 69, 48]⟩) 1093 ::
 .str (⟨#[61, 69, 49]⟩) 1097 ::
 .str (⟨#[61, 69, 50]⟩) 1101 ::
 .str (⟨#[61, 69, 51]⟩) 1105 ::
 .str (⟨#[61, 69, 52]⟩) 1109 ::
 .str (⟨#[61, 69, 53]⟩) 1113 ::
 .str (⟨#[61, 69, 54]⟩) 1117 ::
 .str (⟨#[61, 69, 55]⟩) 1121 ::
 .str (⟨#[61, 69, 56]⟩) 1125 ::
 .str (⟨#[61, 69, 57]⟩) 1129 ::
 .str (⟨#[61, 69, 65]⟩) 1133 ::
 .str (⟨#[61, 69, 66]⟩) 1137 ::
 .str (⟨#[61, 69, 67]⟩) 1141 ::
 .str (⟨#[61, 69, 68]⟩) 1145 ::
 .str (⟨#[61, 69, 69]⟩) 1149 ::
 .str (⟨#[61, 69, 70]⟩) 1153 ::
 .str (⟨#[61, 70, 48]⟩) 1157 ::
 .str (⟨#[61, 70, 49]⟩) 1161 ::
 .str (⟨#[61, 70, 50]⟩) 1165 ::
 .str (⟨#[61, 70, 51]⟩) 1169 ::
 .str (⟨#[61, 70, 52]⟩) 1173 ::
 .str (⟨#[61, 70, 53]⟩) 1177 ::
 .str (⟨#[61, 70, 54]⟩) 1181 ::
 .str (⟨#[61, 70, 55]⟩) 1185 ::
 .str (⟨#[61, 70, 56]⟩) 1189 ::
 .str (⟨#[61, 70, 57]⟩) 1193 ::
 .str (⟨#[61, 70, 65]⟩) 1197 ::
 .str (⟨#[61, 70, 66]⟩) 1201 ::
 .str (⟨#[61, 70, 67]⟩) 1205 ::
 .str (⟨#[61, 70, 68]⟩) 1209 ::
 .str (⟨#[61, 70, 69]⟩) 1213 ::
 .str (⟨#[61, 70, 70]⟩) 1217 ::
 [])) 0, #[]⟩
noncomputable def hdO25v0 (P : Params) : Obj := ⟨.type "bytes_iterator", none, .fields #[.none, .int 67 0], #[]⟩
noncomputable def hdO26v0 (P : Params) : Obj := ⟨.type "tuple", none, .seq #[] 0, #[]⟩
noncomputable def hdO27v0 (P : Params) : Obj := ⟨.type "StopIteration", none, .fields #[.ref 26, .none, .none, .none, .bool false, .none], #[]⟩
noncomputable def hdS3t (P : Params) : BT := (.node (PySem.W.boot_o_0 P) (.node (PySem.W.boot_o_1 P) (.node (hdO3v4 P) (.node (PySem.W.boot_o_7 P) (.node (hdO15v1 P) .nil .nil) (.node (hdO23v0 P) .nil .nil)) (.node (hdO11v0 P) (.node (hdO19v0 P) .nil .nil) (.node (hdO27v0 P) .nil .nil))) (.node (PySem.W.boot_o_5 P) (.node (PySem.W.boot_o_9 P) (.node (hdO17v1 P) .nil .nil) (.node (hdO25v0 P) .nil .nil)) (.node (hdO13v0 P) (.node (hdO21v0 P) .nil .nil) .nil))) (.node (PySem.W.boot_o_2 P) (.node (PySem.W.boot_o_4 P) (.node (PySem.W.boot_o_8 P) (.node (hdO16v1 P) .nil .nil) (.node (hdO24v0 P) .nil .nil)) (.node (hdO12v0 P) (.node (hdO20v0 P) .nil .nil) .nil)) (.node (PySem.W.boot_o_6 P) (.node (PySem.W.boot_o_10 P) (.node (hdO18v1 P) .nil .nil) (.node (hdO26v0 P) .nil .nil)) (.node (hdO14v0 P) (.node (hdO22v1 P) .nil .nil) .nil))))
noncomputable def hdS3 (w : World) (os : OsState) : SharedT := ⟨hdS3t w.params, 28, {}, #[], ⟨0, 0, 0, 0⟩, 1444, os⟩
theorem hdP3f (w : World) (os : OsState) : (hdRun (w.withFollow "special-get-raises" false) 3077 (hdS2 (w.withFollow "special-get-raises" false) os) (hdTh (hdSts 11 1) ⟨11, 0, 11, 8⟩)) = some (.next, hdS3 (w.withFollow "special-get-raises" false) os, hdC, ⟨12, 9, 12, 74⟩) := by kernel_rfl
theorem hdP3t (w : World) (os : OsState) : (hdRun (w.withFollow "special-get-raises" true) 3077 (hdS2 (w.withFollow "special-get-raises" true) os) (hdTh (hdSts 11 1) ⟨11, 0, 11, 8⟩)) = some (.next, hdS3 (w.withFollow "special-get-raises" true) os, hdC, ⟨12, 9, 12, 74⟩) := by kernel_rfl
theorem hdP3 (w : World) (os : OsState) : (hdRun w 3077 (hdS2 w os) (hdTh (hdSts 11 1) ⟨11, 0, 11, 8⟩)) = some (.next, hdS3 w os, hdC, ⟨12, 9, 12, 74⟩) := byRow2 "special-get-raises" (P := fun w => (hdRun w 3077 (hdS2 w os) (hdTh (hdSts 11 1) ⟨11, 0, 11, 8⟩)) = some (.next, hdS3 w os, hdC, ⟨12, 9, 12, 74⟩)) (fun w => hdP3f w os) (fun w => hdP3t w os) w
theorem hdR3 (w : World) (os : OsState) : hdRunS w 3077 (hdS2 w os).abs (piecesOf (hdSts 11 1) hdEnv hdC ⟨11, 0, 11, 8⟩ hdF) = some (.next, (hdS3 w os).abs, hdC, ⟨12, 9, 12, 74⟩) := hdOf (hdP3 w os)
noncomputable def hdO22v2 (P : Params) : Obj := ⟨.type "list", none, .seq (List.toArray (.str (⟨#[61, 48, 48]⟩) 197 ::
 .str (⟨#[61, 48, 49]⟩) 201 ::
 .str (⟨#[61, 48, 50]⟩) 205 ::
 .str (⟨#[61, 48, 51]⟩) 209 ::
 .str (⟨#[61, 48, 52]⟩) 213 ::
 .str (⟨#[61, 48, 53]⟩) 217 ::
 .str (⟨#[61, 48, 54]⟩) 221 ::
 .str (⟨#[61, 48, 55]⟩) 225 ::
 .str (⟨#[61, 48, 56]⟩) 229 ::
 .str (⟨#[61, 48, 57]⟩) 233 ::
 .str (⟨#[61, 48, 65]⟩) 237 ::
 .str (⟨#[61, 48, 66]⟩) 241 ::
 .str (⟨#[61, 48, 67]⟩) 245 ::
 .str (⟨#[61, 48, 68]⟩) 249 ::
 .str (⟨#[61, 48, 69]⟩) 253 ::
 .str (⟨#[61, 48, 70]⟩) 257 ::
 .str (⟨#[61, 49, 48]⟩) 261 ::
 .str (⟨#[61, 49, 49]⟩) 265 ::
 .str (⟨#[61, 49, 50]⟩) 269 ::
 .str (⟨#[61, 49, 51]⟩) 273 ::
 .str (⟨#[61, 49, 52]⟩) 277 ::
 .str (⟨#[61, 49, 53]⟩) 281 ::
 .str (⟨#[61, 49, 54]⟩) 285 ::
 .str (⟨#[61, 49, 55]⟩) 289 ::
 .str (⟨#[61, 49, 56]⟩) 293 ::
 .str (⟨#[61, 49, 57]⟩) 297 ::
 .str (⟨#[61, 49, 65]⟩) 301 ::
 .str (⟨#[61, 49, 66]⟩) 305 ::
 .str (⟨#[61, 49, 67]⟩) 309 ::
 .str (⟨#[61, 49, 68]⟩) 313 ::
 .str (⟨#[61, 49, 69]⟩) 317 ::
 .str (⟨#[61, 49, 70]⟩) 321 ::
 .str (⟨#[95]⟩) 1444 ::
 .str (⟨#[33]⟩) 1248 ::
 .str (⟨#[61, 50, 50]⟩) 333 ::
 .str (⟨#[61, 50, 51]⟩) 337 ::
 .str (⟨#[61, 50, 52]⟩) 341 ::
 .str (⟨#[61, 50, 53]⟩) 345 ::
 .str (⟨#[61, 50, 54]⟩) 349 ::
 .str (⟨#[61, 50, 55]⟩) 353 ::
 .str (⟨#[61, 50, 56]⟩) 357 ::
 .str (⟨#[61, 50, 57]⟩) 361 ::
 .str (⟨#[42]⟩) 1251 ::
 .str (⟨#[43]⟩) 1254 ::
 .str (⟨#[61, 50, 67]⟩) 373 ::
 .str (⟨#[45]⟩) 1245 ::
 .str (⟨#[61, 50, 69]⟩) 381 ::
 .str (⟨#[47]⟩) 1257 ::
 .str (⟨#[48]⟩) 1416 ::
 .str (⟨#[49]⟩) 1419 ::
 .str (⟨#[50]⟩) 1422 ::
 .str (⟨#[51]⟩) 1425 ::
 .str (⟨#[52]⟩) 1428 ::
 .str (⟨#[53]⟩) 1431 ::
 .str (⟨#[54]⟩) 1434 ::
 .str (⟨#[55]⟩) 1437 ::
 .str (⟨#[56]⟩) 1440 ::
 .str (⟨#[57]⟩) 1443 ::
 .str (⟨#[61, 51, 65]⟩) 429 ::
 .str (⟨#[61, 51, 66]⟩) 433 ::
 .str (⟨#[61, 51, 67]⟩) 437 ::
 .str (⟨#[61, 51, 68]⟩) 441 ::
 .str (⟨#[61, 51, 69]⟩) 445 ::
 .str (⟨#[61, 51, 70]⟩) 449 ::
 .str (⟨#[61, 52, 48]⟩) 453 ::
 .str (⟨#[65]⟩) 1338 ::
 .str (⟨#[66]⟩) 1341 ::
 .str (⟨#[67]⟩) 1344 ::
 .str (⟨#[68]⟩) 1347 ::
 .str (⟨#[69]⟩) 1350 ::
 .str (⟨#[70]⟩) 1353 ::
 .str (⟨#[71]⟩) 1356 ::
 .str (⟨#[72]⟩) 1359 ::
 .str (⟨#[73]⟩) 1362 ::
 .str (⟨#[74]⟩) 1365 ::
 .str (⟨#[75]⟩) 1368 ::
 .str (⟨#[76]⟩) 1371 ::
 .str (⟨#[77]⟩) 1374 ::
 .str (⟨#[78]⟩) 1377 ::
 .str (⟨#[79]⟩) 1380 ::
 .str (⟨#[80]⟩) 1383 ::
 .str (⟨#[81]⟩) 1386 ::
 .str (⟨#[82]⟩) 1389 ::
 .str (⟨#[83]⟩) 1392 ::
 .str (⟨#[84]⟩) 1395 ::
 .str (⟨#[85]⟩) 1398 ::
 .str (⟨#[86]⟩) 1401 ::
 .str (⟨#[87]⟩) 1404 ::
 .str (⟨#[88]⟩) 1407 ::
 .str (⟨#[89]⟩) 1410 ::
 .str (⟨#[90]⟩) 1413 ::
 .str (⟨#[61, 53, 66]⟩) 561 ::
 .str (⟨#[61, 53, 67]⟩) 565 ::
 .str (⟨#[61, 53, 68]⟩) 569 ::
 .str (⟨#[61, 53, 69]⟩) 573 ::
 .str (⟨#[61, 53, 70]⟩) 577 ::
 .str (⟨#[61, 54, 48]⟩) 581 ::
 .str (⟨#[97]⟩) 1260 ::
 .str (⟨#[98]⟩) 1263 ::
 .str (⟨#[99]⟩) 1266 ::
 .str (⟨#[100]⟩) 1269 ::
 .str (⟨#[101]⟩) 1272 ::
 .str (⟨#[102]⟩) 1275 ::
 .str (⟨#[103]⟩) 1278 ::
 .str (⟨#[104]⟩) 1281 ::
 .str (⟨#[105]⟩) 1284 ::
 .str (⟨#[106]⟩) 1287 ::
 .str (⟨#[107]⟩) 1290 ::
 .str (⟨#[108]⟩) 1293 ::
 .str (⟨#[109]⟩) 1296 ::
 .str (⟨#[110]⟩) 1299 ::
 .str (⟨#[111]⟩) 1302 ::
 .str (⟨#[112]⟩) 1305 ::
 .str (⟨#[113]⟩) 1308 ::
 .str (⟨#[114]⟩) 1311 ::
 .str (⟨#[115]⟩) 1314 ::
 .str (⟨#[116]⟩) 1317 ::
 .str (⟨#[117]⟩) 1320 ::
 .str (⟨#[118]⟩) 1323 ::
 .str (⟨#[119]⟩) 1326 ::
 .str (⟨#[120]⟩) 1329 ::
 .str (⟨#[121]⟩) 1332 ::
 .str (⟨#[122]⟩) 1335 ::
 .str (⟨#[61, 55, 66]⟩) 689 ::
 .str (⟨#[61, 55, 67]⟩) 693 ::
 .str (⟨#[61, 55, 68]⟩) 697 ::
 .str (⟨#[61, 55, 69]⟩) 701 ::
 .str (⟨#[61, 55, 70]⟩) 705 ::
 .str (⟨#[61, 56, 48]⟩) 709 ::
 .str (⟨#[61, 56, 49]⟩) 713 ::
 .str (⟨#[61, 56, 50]⟩) 717 ::
 .str (⟨#[61, 56, 51]⟩) 721 ::
 .str (⟨#[61, 56, 52]⟩) 725 ::
 .str (⟨#[61, 56, 53]⟩) 729 ::
 .str (⟨#[61, 56, 54]⟩) 733 ::
 .str (⟨#[61, 56, 55]⟩) 737 ::
 .str (⟨#[61, 56, 56]⟩) 741 ::
 .str (⟨#[61, 56, 57]⟩) 745 ::
 .str (⟨#[61, 56, 65]⟩) 749 ::
 .str (⟨#[61, 56, 66]⟩) 753 ::
 .str (⟨#[61, 56, 67]⟩) 757 ::
 .str (⟨#[61, 56, 68]⟩) 761 ::
 .str (⟨#[61, 56, 69]⟩) 765 ::
 .str (⟨#[61, 56, 70]⟩) 769 ::
 .str (⟨#[61, 57, 48]⟩) 773 ::
 .str (⟨#[61, 57, 49]⟩) 777 ::
 .str (⟨#[61, 57, 50]⟩) 781 ::
 .str (⟨#[61, 57, 51]⟩) 785 ::
 .str (⟨#[61, 57, 52]⟩) 789 ::
 .str (⟨#[61, 57, 53]⟩) 793 ::
 .str (⟨#[61, 57, 54]⟩) 797 ::
 .str (⟨#[61, 57, 55]⟩) 801 ::
 .str (⟨#[61, 57, 56]⟩) 805 ::
 .str (⟨#[61, 57, 57]⟩) 809 ::
 .str (⟨#[61, 57, 65]⟩) 813 ::
 .str (⟨#[61, 57, 66]⟩) 817 ::
 .str (⟨#[61, 57, 67]⟩) 821 ::
 .str (⟨#[61, 57, 68]⟩) 825 ::
 .str (⟨#[61, 57, 69]⟩) 829 ::
 .str (⟨#[61, 57, 70]⟩) 833 ::
 .str (⟨#[61, 65, 48]⟩) 837 ::
 .str (⟨#[61, 65, 49]⟩) 841 ::
 .str (⟨#[61, 65, 50]⟩) 845 ::
 .str (⟨#[61, 65, 51]⟩) 849 ::
 .str (⟨#[61, 65, 52]⟩) 853 ::
 .str (⟨#[61, 65, 53]⟩) 857 ::
 .str (⟨#[61, 65, 54]⟩) 861 ::
 .str (⟨#[61, 65, 55]⟩) 865 ::
 .str (⟨#[61, 65, 56]⟩) 869 ::
 .str (⟨#[61, 65, 57]⟩) 873 ::
 .str (⟨#[61, 65, 65]⟩) 877 ::
 .str (⟨#[61, 65, 66]⟩) 881 ::
 .str (⟨#[61, 65, 67]⟩) 885 ::
 .str (⟨#[61, 65, 68]⟩) 889 ::
 .str (⟨#[61, 65, 69]⟩) 893 ::
 .str (⟨#[61, 65, 70]⟩) 897 ::
 .str (⟨#[61, 66, 48]⟩) 901 ::
 .str (⟨#[61, 66, 49]⟩) 905 ::
 .str (⟨#[61, 66, 50]⟩) 909 ::
 .str (⟨#[61, 66, 51]⟩) 913 ::
 .str (⟨#[61, 66, 52]⟩) 917 ::
 .str (⟨#[61, 66, 53]⟩) 921 ::
 .str (⟨#[61, 66, 54]⟩) 925 ::
 .str (⟨#[61, 66, 55]⟩) 929 ::
 .str (⟨#[61, 66, 56]⟩) 933 ::
 .str (⟨#[61, 66, 57]⟩) 937 ::
 .str (⟨#[61, 66, 65]⟩) 941 ::
 .str (⟨#[61, 66, 66]⟩) 945 ::
 .str (⟨#[61, 66, 67]⟩) 949 ::
 .str (⟨#[61, 66, 68]⟩) 953 ::
 .str (⟨#[61, 66, 69]⟩) 957 ::
 .str (⟨#[61, 66, 70]⟩) 961 ::
 .str (⟨#[61, 67, 48]⟩) 965 ::
 .str (⟨#[61, 67, 49]⟩) 969 ::
 .str (⟨#[61, 67, 50]⟩) 973 ::
 .str (⟨#[61, 67, 51]⟩) 977 ::
 .str (⟨#[61, 67, 52]⟩) 981 ::
 .str (⟨#[61, 67, 53]⟩) 985 ::
 .str (⟨#[61, 67, 54]⟩) 989 ::
 .str (⟨#[61, 67, 55]⟩) 993 ::
 .str (⟨#[61, 67, 56]⟩) 997 ::
 .str (⟨#[61, 67, 57]⟩) 1001 ::
 .str (⟨#[61, 67, 65]⟩) 1005 ::
 .str (⟨#[61, 67, 66]⟩) 1009 ::
 .str (⟨#[61, 67, 67]⟩) 1013 ::
 .str (⟨#[61, 67, 68]⟩) 1017 ::
 .str (⟨#[61, 67, 69]⟩) 1021 ::
 .str (⟨#[61, 67, 70]⟩) 1025 ::
 .str (⟨#[61, 68, 48]⟩) 1029 ::
 .str (⟨#[61, 68, 49]⟩) 1033 ::
 .str (⟨#[61, 68, 50]⟩) 1037 ::
 .str (⟨#[61, 68, 51]⟩) 1041 ::
 .str (⟨#[61, 68, 52]⟩) 1045 ::
 .str (⟨#[61, 68, 53]⟩) 1049 ::
 .str (⟨#[61, 68, 54]⟩) 1053 ::
 .str (⟨#[61, 68, 55]⟩) 1057 ::
 .str (⟨#[61, 68, 56]⟩) 1061 ::
 .str (⟨#[61, 68, 57]⟩) 1065 ::
 .str (⟨#[61, 68, 65]⟩) 1069 ::
 .str (⟨#[61, 68, 66]⟩) 1073 ::
 .str (⟨#[61, 68, 67]⟩) 1077 ::
 .str (⟨#[61, 68, 68]⟩) 1081 ::
 .str (⟨#[61, 68, 69]⟩) 1085 ::
 .str (⟨#[61, 68, 70]⟩) 1089 ::
 .str (⟨#[61, 69, 48]⟩) 1093 ::
 .str (⟨#[61, 69, 49]⟩) 1097 ::
 .str (⟨#[61, 69, 50]⟩) 1101 ::
 .str (⟨#[61, 69, 51]⟩) 1105 ::
 .str (⟨#[61, 69, 52]⟩) 1109 ::
 .str (⟨#[61, 69, 53]⟩) 1113 ::
 .str (⟨#[61, 69, 54]⟩) 1117 ::
 .str (⟨#[61, 69, 55]⟩) 1121 ::
 .str (⟨#[61, 69, 56]⟩) 1125 ::
 .str (⟨#[61, 69, 57]⟩) 1129 ::
 .str (⟨#[61, 69, 65]⟩) 1133 ::
 .str (⟨#[61, 69, 66]⟩) 1137 ::
 .str (⟨#[61, 69, 67]⟩) 1141 ::
 .str (⟨#[61, 69, 68]⟩) 1145 ::
 .str (⟨#[61, 69, 69]⟩) 1149 ::
 .str (⟨#[61, 69, 70]⟩) 1153 ::
 .str (⟨#[61, 70, 48]⟩) 1157 ::
 .str (⟨#[61, 70, 49]⟩) 1161 ::
 .str (⟨#[61, 70, 50]⟩) 1165 ::
 .str (⟨#[61, 70, 51]⟩) 1169 ::
 .str (⟨#[61, 70, 52]⟩) 1173 ::
 .str (⟨#[61, 70, 53]⟩) 1177 ::
 .str (⟨#[61, 70, 54]⟩) 1181 ::
 .str (⟨#[61, 70, 55]⟩) 1185 ::
 .str (⟨#[61, 70, 56]⟩) 1189 ::
 .str (⟨#[61, 70, 57]⟩) 1193 ::
 .str (⟨#[61, 70, 65]⟩) 1197 ::
 .str (⟨#[61, 70, 66]⟩) 1201 ::
 .str (⟨#[61, 70, 67]⟩) 1205 ::
 .str (⟨#[61, 70, 68]⟩) 1209 ::
 .str (⟨#[61, 70, 69]⟩) 1213 ::
 .str (⟨#[61, 70, 70]⟩) 1217 ::
 [])) 0, #[]⟩
noncomputable def hdS4t (P : Params) : BT := (.node (PySem.W.boot_o_0 P) (.node (PySem.W.boot_o_1 P) (.node (hdO3v4 P) (.node (PySem.W.boot_o_7 P) (.node (hdO15v1 P) .nil .nil) (.node (hdO23v0 P) .nil .nil)) (.node (hdO11v0 P) (.node (hdO19v0 P) .nil .nil) (.node (hdO27v0 P) .nil .nil))) (.node (PySem.W.boot_o_5 P) (.node (PySem.W.boot_o_9 P) (.node (hdO17v1 P) .nil .nil) (.node (hdO25v0 P) .nil .nil)) (.node (hdO13v0 P) (.node (hdO21v0 P) .nil .nil) .nil))) (.node (PySem.W.boot_o_2 P) (.node (PySem.W.boot_o_4 P) (.node (PySem.W.boot_o_8 P) (.node (hdO16v1 P) .nil .nil) (.node (hdO24v0 P) .nil .nil)) (.node (hdO12v0 P) (.node (hdO20v0 P) .nil .nil) .nil)) (.node (PySem.W.boot_o_6 P) (.node (PySem.W.boot_o_10 P) (.node (hdO18v1 P) .nil .nil) (.node (hdO26v0 P) .nil .nil)) (.node (hdO14v0 P) (.node (hdO22v2 P) .nil .nil) .nil))))
noncomputable def hdS4 (w : World) (os : OsState) : SharedT := ⟨hdS4t w.params, 28, {}, #[], ⟨0, 0, 0, 0⟩, 1447, os⟩
theorem hdP4 (w : World) (os : OsState) : (hdRun w 25 (hdS3 w os) (hdTh (hdSts 12 1) ⟨12, 9, 12, 74⟩)) = some (.next, hdS4 w os, hdC, ⟨14, 0, 14, 28⟩) := by kernel_rfl
theorem hdR4 (w : World) (os : OsState) : hdRunS w 25 (hdS3 w os).abs (piecesOf (hdSts 12 1) hdEnv hdC ⟨12, 9, 12, 74⟩ hdF) = some (.next, (hdS4 w os).abs, hdC, ⟨14, 0, 14, 28⟩) := hdOf (hdP4 w os)
noncomputable def hdO28v0 (P : Params) : Obj := ⟨.type "bytes_iterator", none, .fields #[.bytes #[32, 33, 34, 35, 36, 37, 38, 39, 40, 41, 42, 43, 44, 45, 46, 47, 48, 49, 50, 51, 52, 53, 54, 55, 56, 57, 58, 59, 60, 62, 63, 64, 65, 66, 67, 68, 69, 70, 71, 72, 73, 74, 75, 76, 77, 78, 79, 80, 81, 82, 83, 84, 85, 86, 87, 88, 89, 90, 91, 92, 93, 94, 95, 96, 97, 98, 99, 100, 101, 102, 103, 104, 105, 106, 107, 108, 109, 110, 111, 112, 113, 114, 115, 116, 117, 118, 119, 120, 121, 122, 123, 124, 125, 126, 9] 1447, .int 0 0], #[]⟩
noncomputable def hdS5ct (P : Params) : BT := (.node (PySem.W.boot_o_0 P) (.node (PySem.W.boot_o_1 P) (.node (hdO3v4 P) (.node (PySem.W.boot_o_7 P) (.node (hdO15v1 P) .nil .nil) (.node (hdO23v0 P) .nil .nil)) (.node (hdO11v0 P) (.node (hdO19v0 P) .nil .nil) (.node (hdO27v0 P) .nil .nil))) (.node (PySem.W.boot_o_5 P) (.node (PySem.W.boot_o_9 P) (.node (hdO17v1 P) .nil .nil) (.node (hdO25v0 P) .nil .nil)) (.node (hdO13v0 P) (.node (hdO21v0 P) .nil .nil) .nil))) (.node (PySem.W.boot_o_2 P) (.node (PySem.W.boot_o_4 P) (.node (PySem.W.boot_o_8 P) (.node (hdO16v1 P) .nil .nil) (.node (hdO24v0 P) .nil .nil)) (.node (hdO12v0 P) (.node (hdO20v0 P) .nil .nil) (.node (hdO28v0 P) .nil .nil))) (.node (PySem.W.boot_o_6 P) (.node (PySem.W.boot_o_10 P) (.node (hdO18v1 P) .nil .nil) (.node (hdO26v0 P) .nil .nil)) (.node (hdO14v0 P) (.node (hdO22v2 P) .nil .nil) .nil))))
noncomputable def hdS5c (w : World) (os : OsState) : SharedT := ⟨hdS5ct w.params, 29, {}, #[], ⟨0, 0, 0, 0⟩, 1448, os⟩
noncomputable def hdT5 (w : World) (os : OsState) : Thread := ((hdGo (w.withFollow "special-get-raises" false) 10 (hdS4 (w.withFollow "special-get-raises" false) os) (hdTh (hdSts 13 1) ⟨14, 0, 14, 28⟩)).getD (hdS4 (w.withFollow "special-get-raises" false) os, (hdTh (hdSts 13 1) ⟨14, 0, 14, 28⟩))).2
theorem hdC5ff (w : World) (os : OsState) : hdGo (w.withFollow "special-get-raises" false) 10 (hdS4 (w.withFollow "special-get-raises" false) os) (hdTh (hdSts 13 1) ⟨14, 0, 14, 28⟩) = some (hdS5c (w.withFollow "special-get-raises" false) os, hdT5 (w.withFollow "special-get-raises" false) os) := by kernel_rfl
theorem hdC5ft (w : World) (os : OsState) : hdGo (w.withFollow "special-get-raises" true) 10 (hdS4 (w.withFollow "special-get-raises" true) os) (hdTh (hdSts 13 1) ⟨14, 0, 14, 28⟩) = some (hdS5c (w.withFollow "special-get-raises" true) os, hdT5 (w.withFollow "special-get-raises" true) os) := by kernel_rfl
noncomputable def hdO3v5 (P : Params) : Obj := ⟨.type "dict", none, .dict #[⟨PyData.keyHash P (⟨#[95, 95, 110, 97, 109, 101, 95, 95]⟩), .str (⟨#[95, 95, 110, 97, 109, 101, 95, 95]⟩) 165, .str (⟨#[99, 112, 121, 51, 49, 51, 46, 101, 109, 97, 105, 108, 46, 113, 117, 111, 112, 114, 105, 109, 105, 109, 101]⟩) 1234⟩, ⟨PyData.keyHash P (⟨#[95, 95, 100, 111, 99, 95, 95]⟩), .str (⟨#[95, 95, 100, 111, 99, 95, 95]⟩) 166, .none⟩, ⟨PyData.keyHash P (⟨#[95, 95, 112, 97, 99, 107, 97, 103, 101, 95, 95]⟩), .str (⟨#[95, 95, 112, 97, 99, 107, 97, 103, 101, 95, 95]⟩) 167, .none⟩, ⟨PyData.keyHash P (⟨#[95, 95, 108, 111, 97, 100, 101, 114, 95, 95]⟩), .str (⟨#[95, 95, 108, 111, 97, 100, 101, 114, 95, 95]⟩) 168, .builtin "__main__.__loader__#opaque"⟩, ⟨PyData.keyHash P (⟨#[95, 95, 115, 112, 101, 99, 95, 95]⟩), .str (⟨#[95, 95, 115, 112, 101, 99, 95, 95]⟩) 169, .none⟩, ⟨PyData.keyHash P (⟨#[95, 95, 97, 110, 110, 111, 116, 97, 116, 105, 111, 110, 115, 95, 95]⟩), .str (⟨#[95, 95, 97, 110, 110, 111, 116, 97, 116, 105, 111, 110, 115, 95, 95]⟩) 170, .ref 6⟩, ⟨PyData.keyHash P (⟨#[95, 95, 98, 117, 105, 108, 116, 105, 110, 115, 95, 95]⟩), .str (⟨#[95, 95, 98, 117, 105, 108, 116, 105, 110, 115, 95, 95]⟩) 171, .ref 4⟩, ⟨PyData.keyHash P (⟨#[95, 95, 102, 105, 108, 101, 95, 95]⟩), .str (⟨#[95, 95, 102, 105, 108, 101, 95, 95]⟩) 173, .str (⟨#[47, 99, 108, 97, 105, 109, 47, 99, 117, 116, 46, 112, 121]⟩) 172⟩, ⟨PyData.keyHash P (⟨#[95, 95, 99, 97, 99, 104, 101, 100, 95, 95]⟩), .str (⟨#[95, 95, 99, 97, 99, 104, 101, 100, 95, 95]⟩) 174, .none⟩, ⟨PyData.keyHash P (⟨#[67, 82, 76, 70]⟩), .str (⟨#[67, 82, 76, 70]⟩) 188, .str (⟨#[13, 10]⟩) 187⟩, ⟨PyData.keyHash P (⟨#[78, 76]⟩), .str (⟨#[78, 76]⟩) 190, .str (⟨#[10]⟩) 189⟩, ⟨PyData.keyHash P (⟨#[95, 81, 85, 79, 80, 82, 73, 95, 77, 65, 80]⟩), .str (⟨#[95, 81, 85, 79, 80, 82, 73, 95, 77, 65, 80]⟩) 1218, .ref 17⟩, ⟨PyData.keyHash P (⟨#[95, 81, 85, 79, 80, 82, 73, 95, 72, 69, 65, 68, 69, 82, 95, 77, 65, 80]⟩), .str (⟨#[95, 81, 85, 79, 80, 82, 73, 95, 72, 69, 65, 68, 69, 82, 95, 77, 65, 80]⟩) 1219, .ref 22⟩, ⟨PyData.keyHash P (⟨#[95, 81, 85, 79, 80, 82, 73, 95, 66, 79, 68, 89, 95, 77, 65, 80]⟩), .str (⟨#[95, 81, 85, 79, 80, 82, 73, 95, 66, 79, 68, 89, 95, 77, 65, 80]⟩) 1220, .ref 24⟩, ⟨PyData.keyHash P (⟨#[97, 115, 99, 105, 105, 95, 108, 111, 119, 101, 114, 99, 97, 115, 101]⟩), .str (⟨#[97, 115, 99, 105, 105, 95, 108, 111, 119, 101, 114, 99, 97, 115, 101]⟩) 1222, .str (⟨#[97, 98, 99, 100, 101, 102, 103, 104, 105, 106, 107, 108, 109, 110, 111, 112, 113, 114, 115, 116, 117, 118, 119, 120, 121, 122]⟩) 1221⟩, ⟨PyData.keyHash P (⟨#[97, 115, 99, 105, 105, 95, 117, 112, 112, 101, 114, 99, 97, 115, 101]⟩), .str (⟨#[97, 115, 99, 105, 105, 95, 117, 112, 112, 101, 114, 99, 97, 115, 101]⟩) 1224, .str (⟨#[65, 66, 67, 68, 69, 70, 71, 72, 73, 74, 75, 76, 77, 78, 79, 80, 81, 82, 83, 84, 85, 86, 87, 88, 89, 90]⟩) 1223⟩, ⟨PyData.keyHash P (⟨#[97, 115, 99, 105, 105, 95, 108, 101, 116, 116, 101, 114, 115]⟩), .str (⟨#[97, 115, 99, 105, 105, 95, 108, 101, 116, 116, 101, 114, 115]⟩) 1226, .str (⟨#[97, 98, 99, 100, 101, 102, 103, 104, 105, 106, 107, 108, 109, 110, 111, 112, 113, 114, 115, 116, 117, 118, 119, 120, 121, 122, 65, 66, 67, 68, 69, 70, 71, 72, 73, 74, 75, 76, 77, 78, 79, 80, 81, 82, 83, 84, 85, 86, 87, 88, 89, 90]⟩) 1225⟩, ⟨PyData.keyHash P (⟨#[100, 105, 103, 105, 116, 115]⟩), .str (⟨#[100, 105, 103, 105, 116, 115]⟩) 1228, .str (⟨#[48, 49, 50, 51, 52, 53, 54, 55, 56, 57]⟩) 1227⟩, ⟨PyData.keyHash P (⟨#[104, 101, 120, 100, 105, 103, 105, 116, 115]⟩), .str (⟨#[104, 101, 120, 100, 105, 103, 105, 116, 115]⟩) 1233, .str (⟨#[48, 49, 50, 51, 52, 53, 54, 55, 56, 57, 97, 98, 99, 100, 101, 102, 65, 66, 67, 68, 69, 70]⟩) 1232⟩, ⟨PyData.keyHash P (⟨#[99]⟩), .str (⟨#[99]⟩) 1244, .int 9 1730⟩] 20, #[]⟩
noncomputable def hdO24v1 (P : Params) : Obj := ⟨.type "list", none, .seq (List.toArray (.str (⟨#[61, 48, 48]⟩) 197 ::
 .str (⟨#[61, 48, 49]⟩) 201 ::
 .str (⟨#[61, 48, 50]⟩) 205 ::
 .str (⟨#[61, 48, 51]⟩) 209 ::
 .str (⟨#[61, 48, 52]⟩) 213 ::
 .str (⟨#[61, 48, 53]⟩) 217 ::
 .str (⟨#[61, 48, 54]⟩) 221 ::
 .str (⟨#[61, 48, 55]⟩) 225 ::
 .str (⟨#[61, 48, 56]⟩) 229 ::
 .str (⟨#[9]⟩) 1732 ::
 .str (⟨#[61, 48, 65]⟩) 237 ::
 .str (⟨#[61, 48, 66]⟩) 241 ::
 .str (⟨#[61, 48, 67]⟩) 245 ::
 .str (⟨#[61, 48, 68]⟩) 249 ::
 .str (⟨#[61, 48, 69]⟩) 253 ::
 .str (⟨#[61, 48, 70]⟩) 257 ::
 .str (⟨#[61, 49, 48]⟩) 261 ::
 .str (⟨#[61, 49, 49]⟩) 265 ::
 .str (⟨#[61, 49, 50]⟩) 269 ::
 .str (⟨#[61, 49, 51]⟩) 273 ::
 .str (⟨#[61, 49, 52]⟩) 277 ::
 .str (⟨#[61, 49, 53]⟩) 281 ::
 .str (⟨#[61, 49, 54]⟩) 285 ::
 .str (⟨#[61, 49, 55]⟩) 289 ::
 .str (⟨#[61, 49, 56]⟩) 293 ::
 .str (⟨#[61, 49, 57]⟩) 297 ::
 .str (⟨#[61, 49, 65]⟩) 301 ::
 .str (⟨#[61, 49, 66]⟩) 305 ::
 .str (⟨#[61, 49, 67]⟩) 309 ::
 .str (⟨#[61, 49, 68]⟩) 313 ::
 .str (⟨#[61, 49, 69]⟩) 317 ::
 .str (⟨#[61, 49, 70]⟩) 321 ::
 .str (⟨#[32]⟩) 1450 ::
 .str (⟨#[33]⟩) 1453 ::
 .str (⟨#[34]⟩) 1456 ::
 .str (⟨#[35]⟩) 1459 ::
 .str (⟨#[36]⟩) 1462 ::
 .str (⟨#[37]⟩) 1465 ::
 .str (⟨#[38]⟩) 1468 ::
 .str (⟨#[39]⟩) 1471 ::
 .str (⟨#[40]⟩) 1474 ::
 .str (⟨#[41]⟩) 1477 ::
 .str (⟨#[42]⟩) 1480 ::
 .str (⟨#[43]⟩) 1483 ::
 .str (⟨#[44]⟩) 1486 ::
 .str (⟨#[45]⟩) 1489 ::
 .str (⟨#[46]⟩) 1492 ::
 .str (⟨#[47]⟩) 1495 ::
 .str (⟨#[48]⟩) 1498 ::
 .str (⟨#[49]⟩) 1501 ::
 .str (⟨#[50]⟩) 1504 ::
 .str (⟨#[51]⟩) 1507 ::
 .str (⟨#[52]⟩) 1510 ::
 .str (⟨#[53]⟩) 1513 ::
 .str (⟨#[54]⟩) 1516 ::
 .str (⟨#[55]⟩) 1519 ::
 .str (⟨#[56]⟩) 1522 ::
 .str (⟨#[57]⟩) 1525 ::
 .str (⟨#[58]⟩) 1528 ::
 .str (⟨#[59]⟩) 1531 ::
 .str (⟨#[60]⟩) 1534 ::
 .str (⟨#[61, 51, 68]⟩) 441 ::
 .str (⟨#[62]⟩) 1537 ::
 .str (⟨#[63]⟩) 1540 ::
 .str (⟨#[64]⟩) 1543 ::
 .str (⟨#[65]⟩) 1546 ::
 .str (⟨#[66]⟩) 1549 ::
 .str (⟨#[67]⟩) 1552 ::
 .str (⟨#[68]⟩) 1555 ::
 .str (⟨#[69]⟩) 1558 ::
 .str (⟨#[70]⟩) 1561 ::
 .str (⟨#[71]⟩) 1564 ::
 .str (⟨#[72]⟩) 1567 ::
 .str (⟨#[73]⟩) 1570 ::
 .str (⟨#[74]⟩) 1573 ::
 .str (⟨#[75]⟩) 1576 ::
 .str (⟨#[76]⟩) 1579 ::
 .str (⟨#[77]⟩) 1582 ::
 .str (⟨#[78]⟩) 1585 ::
 .str (⟨#[79]⟩) 1588 ::
 .str (⟨#[80]⟩) 1591 ::
 .str (⟨#[81]⟩) 1594 ::
 .str (⟨#[82]⟩) 1597 ::
 .str (⟨#[83]⟩) 1600 ::
 .str (⟨#[84]⟩) 1603 ::
 .str (⟨#[85]⟩) 1606 ::
 .str (⟨#[86]⟩) 1609 ::
 .str (⟨#[87]⟩) 1612 ::
 .str (⟨#[88]⟩) 1615 ::
 .str (⟨#[89]⟩) 1618 ::
 .str (⟨#[90]⟩) 1621 ::
 .str (⟨#[91]⟩) 1624 ::
 .str (⟨#[92]⟩) 1627 ::
 .str (⟨#[93]⟩) 1630 ::
 .str (⟨#[94]⟩) 1633 ::
 .str (⟨#[95]⟩) 1636 ::
 .str (⟨#[96]⟩) 1639 ::
 .str (⟨#[97]⟩) 1642 ::
 .str (⟨#[98]⟩) 1645 ::
 .str (⟨#[99]⟩) 1648 ::
 .str (⟨#[100]⟩) 1651 ::
 .str (⟨#[101]⟩) 1654 ::
 .str (⟨#[102]⟩) 1657 ::
 .str (⟨#[103]⟩) 1660 ::
 .str (⟨#[104]⟩) 1663 ::
 .str (⟨#[105]⟩) 1666 ::
 .str (⟨#[106]⟩) 1669 ::
 .str (⟨#[107]⟩) 1672 ::
 .str (⟨#[108]⟩) 1675 ::
 .str (⟨#[109]⟩) 1678 ::
 .str (⟨#[110]⟩) 1681 ::
 .str (⟨#[111]⟩) 1684 ::
 .str (⟨#[112]⟩) 1687 ::
 .str (⟨#[113]⟩) 1690 ::
 .str (⟨#[114]⟩) 1693 ::
 .str (⟨#[115]⟩) 1696 ::
 .str (⟨#[116]⟩) 1699 ::
 .str (⟨#[117]⟩) 1702 ::
 .str (⟨#[118]⟩) 1705 ::
 .str (⟨#[119]⟩) 1708 ::
 .str (⟨#[120]⟩) 1711 ::
 .str (⟨#[121]⟩) 1714 ::
 .str (⟨#[122]⟩) 1717 ::
 .str (⟨#[123]⟩) 1720 ::
 .str (⟨#[124]⟩) 1723 ::
 .str (⟨#[125]⟩) 1726 ::
 .str (⟨#[126]⟩) 1729 ::
 .str (⟨#[61, 55, 70]⟩) 705 ::
 .str (⟨#[61, 56, 48]⟩) 709 ::
 .str (⟨#[61, 56, 49]⟩) 713 ::
 .str (⟨#[61, 56, 50]⟩) 717 ::
 .str (⟨#[61, 56, 51]⟩) 721 ::
 .str (⟨#[61, 56, 52]⟩) 725 ::
 .str (⟨#[61, 56, 53]⟩) 729 ::
 .str (⟨#[61, 56, 54]⟩) 733 ::
 .str (⟨#[61, 56, 55]⟩) 737 ::
 .str (⟨#[61, 56, 56]⟩) 741 ::
 .str (⟨#[61, 56, 57]⟩) 745 ::
 .str (⟨#[61, 56, 65]⟩) 749 ::
 .str (⟨#[61, 56, 66]⟩) 753 ::
 .str (⟨#[61, 56, 67]⟩) 757 ::
 .str (⟨#[61, 56, 68]⟩) 761 ::
 .str (⟨#[61, 56, 69]⟩) 765 ::
 .str (⟨#[61, 56, 70]⟩) 769 ::
 .str (⟨#[61, 57, 48]⟩) 773 ::
 .str (⟨#[61, 57, 49]⟩) 777 ::
 .str (⟨#[61, 57, 50]⟩) 781 ::
 .str (⟨#[61, 57, 51]⟩) 785 ::
 .str (⟨#[61, 57, 52]⟩) 789 ::
 .str (⟨#[61, 57, 53]⟩) 793 ::
 .str (⟨#[61, 57, 54]⟩) 797 ::
 .str (⟨#[61, 57, 55]⟩) 801 ::
 .str (⟨#[61, 57, 56]⟩) 805 ::
 .str (⟨#[61, 57, 57]⟩) 809 ::
 .str (⟨#[61, 57, 65]⟩) 813 ::
 .str (⟨#[61, 57, 66]⟩) 817 ::
 .str (⟨#[61, 57, 67]⟩) 821 ::
 .str (⟨#[61, 57, 68]⟩) 825 ::
 .str (⟨#[61, 57, 69]⟩) 829 ::
 .str (⟨#[61, 57, 70]⟩) 833 ::
 .str (⟨#[61, 65, 48]⟩) 837 ::
 .str (⟨#[61, 65, 49]⟩) 841 ::
 .str (⟨#[61, 65, 50]⟩) 845 ::
 .str (⟨#[61, 65, 51]⟩) 849 ::
 .str (⟨#[61, 65, 52]⟩) 853 ::
 .str (⟨#[61, 65, 53]⟩) 857 ::
 .str (⟨#[61, 65, 54]⟩) 861 ::
 .str (⟨#[61, 65, 55]⟩) 865 ::
 .str (⟨#[61, 65, 56]⟩) 869 ::
 .str (⟨#[61, 65, 57]⟩) 873 ::
 .str (⟨#[61, 65, 65]⟩) 877 ::
 .str (⟨#[61, 65, 66]⟩) 881 ::
 .str (⟨#[61, 65, 67]⟩) 885 ::
 .str (⟨#[61, 65, 68]⟩) 889 ::
 .str (⟨#[61, 65, 69]⟩) 893 ::
 .str (⟨#[61, 65, 70]⟩) 897 ::
 .str (⟨#[61, 66, 48]⟩) 901 ::
 .str (⟨#[61, 66, 49]⟩) 905 ::
 .str (⟨#[61, 66, 50]⟩) 909 ::
 .str (⟨#[61, 66, 51]⟩) 913 ::
 .str (⟨#[61, 66, 52]⟩) 917 ::
 .str (⟨#[61, 66, 53]⟩) 921 ::
 .str (⟨#[61, 66, 54]⟩) 925 ::
 .str (⟨#[61, 66, 55]⟩) 929 ::
 .str (⟨#[61, 66, 56]⟩) 933 ::
 .str (⟨#[61, 66, 57]⟩) 937 ::
 .str (⟨#[61, 66, 65]⟩) 941 ::
 .str (⟨#[61, 66, 66]⟩) 945 ::
 .str (⟨#[61, 66, 67]⟩) 949 ::
 .str (⟨#[61, 66, 68]⟩) 953 ::
 .str (⟨#[61, 66, 69]⟩) 957 ::
 .str (⟨#[61, 66, 70]⟩) 961 ::
 .str (⟨#[61, 67, 48]⟩) 965 ::
 .str (⟨#[61, 67, 49]⟩) 969 ::
 .str (⟨#[61, 67, 50]⟩) 973 ::
 .str (⟨#[61, 67, 51]⟩) 977 ::
 .str (⟨#[61, 67, 52]⟩) 981 ::
 .str (⟨#[61, 67, 53]⟩) 985 ::
 .str (⟨#[61, 67, 54]⟩) 989 ::
 .str (⟨#[61, 67, 55]⟩) 993 ::
 .str (⟨#[61, 67, 56]⟩) 997 ::
 .str (⟨#[61, 67, 57]⟩) 1001 ::
 .str (⟨#[61, 67, 65]⟩) 1005 ::
 .str (⟨#[61, 67, 66]⟩) 1009 ::
 .str (⟨#[61, 67, 67]⟩) 1013 ::
 .str (⟨#[61, 67, 68]⟩) 1017 ::
 .str (⟨#[61, 67, 69]⟩) 1021 ::
 .str (⟨#[61, 67, 70]⟩) 1025 ::
 .str (⟨#[61, 68, 48]⟩) 1029 ::
 .str (⟨#[61, 68, 49]⟩) 1033 ::
 .str (⟨#[61, 68, 50]⟩) 1037 ::
 .str (⟨#[61, 68, 51]⟩) 1041 ::
 .str (⟨#[61, 68, 52]⟩) 1045 ::
 .str (⟨#[61, 68, 53]⟩) 1049 ::
 .str (⟨#[61, 68, 54]⟩) 1053 ::
 .str (⟨#[61, 68, 55]⟩) 1057 ::
 .str (⟨#[61, 68, 56]⟩) 1061 ::
 .str (⟨#[61, 68, 57]⟩) 1065 ::
 .str (⟨#[61, 68, 65]⟩) 1069 ::
 .str (⟨#[61, 68, 66]⟩) 1073 ::
 .str (⟨#[61, 68, 67]⟩) 1077 ::
 .str (⟨#[61, 68, 68]⟩) 1081 ::
 .str (⟨#[61, 68, 69]⟩) 1085 ::
 .str (⟨#[61, 68, 70]⟩) 1089 ::
 .str (⟨#[61, 69, 48]⟩) 1093 ::
 .str (⟨#[61, 69, 49]⟩) 1097 ::
 .str (⟨#[61, 69, 50]⟩) 1101 ::
 .str (⟨#[61, 69, 51]⟩) 1105 ::
 .str (⟨#[61, 69, 52]⟩) 1109 ::
 .str (⟨#[61, 69, 53]⟩) 1113 ::
 .str (⟨#[61, 69, 54]⟩) 1117 ::
 .str (⟨#[61, 69, 55]⟩) 1121 ::
 .str (⟨#[61, 69, 56]⟩) 1125 ::
 .str (⟨#[61, 69, 57]⟩) 1129 ::
 .str (⟨#[61, 69, 65]⟩) 1133 ::
 .str (⟨#[61, 69, 66]⟩) 1137 ::
 .str (⟨#[61, 69, 67]⟩) 1141 ::
 .str (⟨#[61, 69, 68]⟩) 1145 ::
 .str (⟨#[61, 69, 69]⟩) 1149 ::
 .str (⟨#[61, 69, 70]⟩) 1153 ::
 .str (⟨#[61, 70, 48]⟩) 1157 ::
 .str (⟨#[61, 70, 49]⟩) 1161 ::
 .str (⟨#[61, 70, 50]⟩) 1165 ::
 .str (⟨#[61, 70, 51]⟩) 1169 ::
 .str (⟨#[61, 70, 52]⟩) 1173 ::
 .str (⟨#[61, 70, 53]⟩) 1177 ::
 .str (⟨#[61, 70, 54]⟩) 1181 ::
 .str (⟨#[61, 70, 55]⟩) 1185 ::
 .str (⟨#[61, 70, 56]⟩) 1189 ::
 .str (⟨#[61, 70, 57]⟩) 1193 ::
 .str (⟨#[61, 70, 65]⟩) 1197 ::
 .str (⟨#[61, 70, 66]⟩) 1201 ::
 .str (⟨#[61, 70, 67]⟩) 1205 ::
 .str (⟨#[61, 70, 68]⟩) 1209 ::
 .str (⟨#[61, 70, 69]⟩) 1213 ::
 .str (⟨#[61, 70, 70]⟩) 1217 ::
 [])) 0, #[]⟩
noncomputable def hdO28v1 (P : Params) : Obj := ⟨.type "bytes_iterator", none, .fields #[.none, .int 95 0], #[]⟩
noncomputable def hdO29v0 (P : Params) : Obj := ⟨.type "tuple", none, .seq #[] 0, #[]⟩
noncomputable def hdO30v0 (P : Params) : Obj := ⟨.type "StopIteration", none, .fields #[.ref 29, .none, .none, .none, .bool false, .none], #[]⟩
noncomputable def hdS5t (P : Params) : BT := (.node (PySem.W.boot_o_0 P) (.node (PySem.W.boot_o_1 P) (.node (hdO3v5 P) (.node (PySem.W.boot_o_7 P) (.node (hdO15v1 P) .nil .nil) (.node (hdO23v0 P) .nil .nil)) (.node (hdO11v0 P) (.node (hdO19v0 P) .nil .nil) (.node (hdO27v0 P) .nil .nil))) (.node (PySem.W.boot_o_5 P) (.node (PySem.W.boot_o_9 P) (.node (hdO17v1 P) .nil .nil) (.node (hdO25v0 P) .nil .nil)) (.node (hdO13v0 P) (.node (hdO21v0 P) .nil .nil) (.node (hdO29v0 P) .nil .nil)))) (.node (PySem.W.boot_o_2 P) (.node (PySem.W.boot_o_4 P) (.node (PySem.W.boot_o_8 P) (.node (hdO16v1 P) .nil .nil) (.node (hdO24v1 P) .nil .nil)) (.node (hdO12v0 P) (.node (hdO20v0 P) .nil .nil) (.node (hdO28v1 P) .nil .nil))) (.node (PySem.W.boot_o_6 P) (.node (PySem.W.boot_o_10 P) (.node (hdO18v1 P) .nil .nil) (.node (hdO26v0 P) .nil .nil)) (.node (hdO14v0 P) (.node (hdO22v2 P) .nil .nil) (.node (hdO30v0 P) .nil .nil)))))
noncomputable def hdS5 (w : World) (os : OsState) : SharedT := ⟨hdS5t w.params, 31, {}, #[], ⟨0, 0, 0, 0⟩, 1733, os⟩
theorem hdL5 (w : World) (os : OsState) : hdRun w 4293 (hdS5c w os) (hdT5 w os) = some (.next, hdS5 w os, hdC, ⟨15, 9, 15, 110⟩) := by kernel_rfl
theorem hdR5ff (w : World) (os : OsState) : hdRunS (w.withFollow "special-get-raises" false) 4303 (hdS4 (w.withFollow "special-get-raises" false) os).abs (piecesOf (hdSts 13 1) hdEnv hdC ⟨14, 0, 14, 28⟩ hdF) = some (.next, (hdS5 (w.withFollow "special-get-raises" false) os).abs, hdC, ⟨15, 9, 15, 110⟩) := hdMono (n := 10 + 4293) (by decide) (seg_go (hdOfG (hdC5ff w os)) (hdOfT (hdL5 (w.withFollow "special-get-raises" false) os)))
theorem hdR5ft (w : World) (os : OsState) : hdRunS (w.withFollow "special-get-raises" true) 4303 (hdS4 (w.withFollow "special-get-raises" true) os).abs (piecesOf (hdSts 13 1) hdEnv hdC ⟨14, 0, 14, 28⟩ hdF) = some (.next, (hdS5 (w.withFollow "special-get-raises" true) os).abs, hdC, ⟨15, 9, 15, 110⟩) := hdMono (n := 10 + 4293) (by decide) (seg_go (hdOfG (hdC5ft w os)) (hdOfT (hdL5 (w.withFollow "special-get-raises" true) os)))
theorem hdR5 (w : World) (os : OsState) : hdRunS w 4303 (hdS4 w os).abs (piecesOf (hdSts 13 1) hdEnv hdC ⟨14, 0, 14, 28⟩ hdF) = some (.next, (hdS5 w os).abs, hdC, ⟨15, 9, 15, 110⟩) := hdBy "special-get-raises" (P := fun w => hdRunS w 4303 (hdS4 w os).abs (piecesOf (hdSts 13 1) hdEnv hdC ⟨14, 0, 14, 28⟩ hdF) = some (.next, (hdS5 w os).abs, hdC, ⟨15, 9, 15, 110⟩)) (hdR5ff w os) (hdR5ft w os)
noncomputable def hdO3v6 (P : Params) : Obj := ⟨.type "dict", none, .dict #[⟨PyData.keyHash P (⟨#[95, 95, 110, 97, 109, 101, 95, 95]⟩), .str (⟨#[95, 95, 110, 97, 109, 101, 95, 95]⟩) 165, .str (⟨#[99, 112, 121, 51, 49, 51, 46, 101, 109, 97, 105, 108, 46, 113, 117, 111, 112, 114, 105, 109, 105, 109, 101]⟩) 1234⟩, ⟨PyData.keyHash P (⟨#[95, 95, 100, 111, 99, 95, 95]⟩), .str (⟨#[95, 95, 100, 111, 99, 95, 95]⟩) 166, .none⟩, ⟨PyData.keyHash P (⟨#[95, 95, 112, 97, 99, 107, 97, 103, 101, 95, 95]⟩), .str (⟨#[95, 95, 112, 97, 99, 107, 97, 103, 101, 95, 95]⟩) 167, .none⟩, ⟨PyData.keyHash P (⟨#[95, 95, 108, 111, 97, 100, 101, 114, 95, 95]⟩), .str (⟨#[95, 95, 108, 111, 97, 100, 101, 114, 95, 95]⟩) 168, .builtin "__main__.__loader__#opaque"⟩, ⟨PyData.keyHash P (⟨#[95, 95, 115, 112, 101, 99, 95, 95]⟩), .str (⟨#[95, 95, 115, 112, 101, 99, 95, 95]⟩) 169, .none⟩, ⟨PyData.keyHash P (⟨#[95, 95, 97, 110, 110, 111, 116, 97, 116, 105, 111, 110, 115, 95, 95]⟩), .str (⟨#[95, 95, 97, 110, 110, 111, 116, 97, 116, 105, 111, 110, 115, 95, 95]⟩) 170, .ref 6⟩, ⟨PyData.keyHash P (⟨#[95, 95, 98, 117, 105, 108, 116, 105, 110, 115, 95, 95]⟩), .str (⟨#[95, 95, 98, 117, 105, 108, 116, 105, 110, 115, 95, 95]⟩) 171, .ref 4⟩, ⟨PyData.keyHash P (⟨#[95, 95, 102, 105, 108, 101, 95, 95]⟩), .str (⟨#[95, 95, 102, 105, 108, 101, 95, 95]⟩) 173, .str (⟨#[47, 99, 108, 97, 105, 109, 47, 99, 117, 116, 46, 112, 121]⟩) 172⟩, ⟨PyData.keyHash P (⟨#[95, 95, 99, 97, 99, 104, 101, 100, 95, 95]⟩), .str (⟨#[95, 95, 99, 97, 99, 104, 101, 100, 95, 95]⟩) 174, .none⟩, ⟨PyData.keyHash P (⟨#[67, 82, 76, 70]⟩), .str (⟨#[67, 82, 76, 70]⟩) 188, .str (⟨#[13, 10]⟩) 187⟩, ⟨PyData.keyHash P (⟨#[78, 76]⟩), .str (⟨#[78, 76]⟩) 190, .str (⟨#[10]⟩) 189⟩, ⟨PyData.keyHash P (⟨#[95, 81, 85, 79, 80, 82, 73, 95, 77, 65, 80]⟩), .str (⟨#[95, 81, 85, 79, 80, 82, 73, 95, 77, 65, 80]⟩) 1218, .ref 17⟩, ⟨PyData.keyHash P (⟨#[95, 81, 85, 79, 80, 82, 73, 95, 72, 69, 65, 68, 69, 82, 95, 77, 65, 80]⟩), .str (⟨#[95, 81, 85, 79, 80, 82, 73, 95, 72, 69, 65, 68, 69, 82, 95, 77, 65, 80]⟩) 1219, .ref 22⟩, ⟨PyData.keyHash P (⟨#[95, 81, 85, 79, 80, 82, 73, 95, 66, 79, 68, 89, 95, 77, 65, 80]⟩), .str (⟨#[95, 81, 85, 79, 80, 82, 73, 95, 66, 79, 68, 89, 95, 77, 65, 80]⟩) 1220, .ref 24⟩, ⟨PyData.keyHash P (⟨#[97, 115, 99, 105, 105, 95, 108, 111, 119, 101, 114, 99, 97, 115, 101]⟩), .str (⟨#[97, 115, 99, 105, 105, 95, 108, 111, 119, 101, 114, 99, 97, 115, 101]⟩) 1222, .str (⟨#[97, 98, 99, 100, 101, 102, 103, 104, 105, 106, 107, 108, 109, 110, 111, 112, 113, 114, 115, 116, 117, 118, 119, 120, 121, 122]⟩) 1221⟩, ⟨PyData.keyHash P (⟨#[97, 115, 99, 105, 105, 95, 117, 112, 112, 101, 114, 99, 97, 115, 101]⟩), .str (⟨#[97, 115, 99, 105, 105, 95, 117, 112, 112, 101, 114, 99, 97, 115, 101]⟩) 1224, .str (⟨#[65, 66, 67, 68, 69, 70, 71, 72, 73, 74, 75, 76, 77, 78, 79, 80, 81, 82, 83, 84, 85, 86, 87, 88, 89, 90]⟩) 1223⟩, ⟨PyData.keyHash P (⟨#[97, 115, 99, 105, 105, 95, 108, 101, 116, 116, 101, 114, 115]⟩), .str (⟨#[97, 115, 99, 105, 105, 95, 108, 101, 116, 116, 101, 114, 115]⟩) 1226, .str (⟨#[97, 98, 99, 100, 101, 102, 103, 104, 105, 106, 107, 108, 109, 110, 111, 112, 113, 114, 115, 116, 117, 118, 119, 120, 121, 122, 65, 66, 67, 68, 69, 70, 71, 72, 73, 74, 75, 76, 77, 78, 79, 80, 81, 82, 83, 84, 85, 86, 87, 88, 89, 90]⟩) 1225⟩, ⟨PyData.keyHash P (⟨#[100, 105, 103, 105, 116, 115]⟩), .str (⟨#[100, 105, 103, 105, 116, 115]⟩) 1228, .str (⟨#[48, 49, 50, 51, 52, 53, 54, 55, 56, 57]⟩) 1227⟩, ⟨PyData.keyHash P (⟨#[104, 101, 120, 100, 105, 103, 105, 116, 115]⟩), .str (⟨#[104, 101, 120, 100, 105, 103, 105, 116, 115]⟩) 1233, .str (⟨#[48, 49, 50, 51, 52, 53, 54, 55, 56, 57, 97, 98, 99, 100, 101, 102, 65, 66, 67, 68, 69, 70]⟩) 1232⟩, ⟨PyData.keyHash P (⟨#[99]⟩), .str (⟨#[99]⟩) 1244, .int 9 1730⟩, ⟨PyData.keyHash P (⟨#[117, 110, 113, 117, 111, 116, 101]⟩), .str (⟨#[117, 110, 113, 117, 111, 116, 101]⟩) 1739, .ref 37⟩, ⟨PyData.keyHash P (⟨#[113, 117, 111, 116, 101]⟩), .str (⟨#[113, 117, 111, 116, 101]⟩) 1746, .ref 44⟩, ⟨PyData.keyHash P (⟨#[95, 81, 85, 79, 80, 82, 73, 95, 66, 79, 68, 89, 95, 69, 78, 67, 79, 68, 69, 95, 77, 65, 80]⟩), .str (⟨#[95, 81, 85, 79, 80, 82, 73, 95, 66, 79, 68, 89, 95, 69, 78, 67, 79, 68, 69, 95, 77, 65, 80]⟩) 1747, .ref 46⟩] 23, #[]⟩
noncomputable def hdO12v1 (P : Params) : Obj := ⟨.none, none, .fields #[.int 17 0, .int 0 0, .ref 36, .int 19 0, .int 0 0, .ref 43], #[]⟩
noncomputable def hdO31v0 (P : Params) : Obj := ⟨.type "tuple", none, .seq #[] 0, #[]⟩
noncomputable def hdO32v0 (P : Params) : Obj := ⟨.none, none, .fields #[], #[]⟩
noncomputable def hdO33v0 (P : Params) : Obj := ⟨.type "tuple", none, .seq #[.str (⟨#[115]⟩) 1736] 0, #[]⟩
noncomputable def hdO34v0 (P : Params) : Obj := ⟨.type "tuple", none, .seq #[] 0, #[]⟩
noncomputable def hdO35v0 (P : Params) : Obj := hdFn 14 (.none) 0 (.none) (.none) (.none) (.none) (.none)
noncomputable def hdO36v0 (P : Params) : Obj := ⟨.type "code", none, .fields #[.str (⟨#[117, 110, 113, 117, 111, 116, 101]⟩) 1733, .str (⟨#[117, 110, 113, 117, 111, 116, 101]⟩) 1734, .str (⟨#[47, 99, 108, 97, 105, 109, 47, 99, 117, 116, 46, 112, 121]⟩) 1735, .int 17 0, .int 1 0, .int 0 0, .int 0 0, .int 3 0, .ref 31, .bool true, .int 181 0, .ref 32, .none, .ref 33, .ref 34, .ref 35, .int 1737 0, .int 17 0, .str (⟨#[47, 99, 108, 97, 105, 109, 47, 99, 117, 116, 46, 112, 121]⟩) 1738], #[]⟩
noncomputable def hdO37v0 (P : Params) : Obj := hdFn 14 (.type "function") 3 (.none) (.none) (.none) (.str (⟨#[99, 112, 121, 51, 49, 51, 46, 101, 109, 97, 105, 108, 46, 113, 117, 111, 112, 114, 105, 109, 105, 109, 101]⟩) 1234) (.ref 36)
noncomputable def hdO38v0 (P : Params) : Obj := ⟨.type "tuple", none, .seq #[] 0, #[]⟩
noncomputable def hdO39v0 (P : Params) : Obj := ⟨.none, none, .fields #[], #[]⟩
noncomputable def hdO40v0 (P : Params) : Obj := ⟨.type "tuple", none, .seq #[.str (⟨#[99]⟩) 1743] 0, #[]⟩
noncomputable def hdO41v0 (P : Params) : Obj := ⟨.type "tuple", none, .seq #[] 0, #[]⟩
noncomputable def hdO42v0 (P : Params) : Obj := hdFn 15 (.none) 0 (.none) (.none) (.none) (.none) (.none)
noncomputable def hdO43v0 (P : Params) : Obj := ⟨.type "code", none, .fields #[.str (⟨#[113, 117, 111, 116, 101]⟩) 1740, .str (⟨#[113, 117, 111, 116, 101]⟩) 1741, .str (⟨#[47, 99, 108, 97, 105, 109, 47, 99, 117, 116, 46, 112, 121]⟩) 1742, .int 19 0, .int 1 0, .int 0 0, .int 0 0, .int 3 0, .ref 38, .bool true, .int 181 0, .ref 39, .none, .ref 40, .ref 41, .ref 42, .int 1744 0, .int 19 0, .str (⟨#[47, 99, 108, 97, 105, 109, 47, 99, 117, 116, 46, 112, 121]⟩) 1745], #[]⟩
noncomputable def hdO44v0 (P : Params) : Obj := hdFn 15 (.type "function") 3 (.none) (.none) (.none) (.str (⟨#[99, 112, 121, 51, 49, 51, 46, 101, 109, 97, 105, 108, 46, 113, 117, 111, 112, 114, 105, 109, 105, 109, 101]⟩) 1234) (.ref 43)
noncomputable def hdO45v0 (P : Params) : Obj := ⟨.type "slice", none, .fields #[.none, .none, .none], #[]⟩
noncomputable def hdO46v0 (P : Params) : Obj := ⟨.type "list", none, .seq (List.toArray (.str (⟨#[61, 48, 48]⟩) 197 ::
 .str (⟨#[61, 48, 49]⟩) 201 ::
 .str (⟨#[61, 48, 50]⟩) 205 ::
 .str (⟨#[61, 48, 51]⟩) 209 ::
 .str (⟨#[61, 48, 52]⟩) 213 ::
 .str (⟨#[61, 48, 53]⟩) 217 ::
 .str (⟨#[61, 48, 54]⟩) 221 ::
 .str (⟨#[61, 48, 55]⟩) 225 ::
 .str (⟨#[61, 48, 56]⟩) 229 ::
 .str (⟨#[9]⟩) 1732 ::
 .str (⟨#[61, 48, 65]⟩) 237 ::
 .str (⟨#[61, 48, 66]⟩) 241 ::
 .str (⟨#[61, 48, 67]⟩) 245 ::
 .str (⟨#[61, 48, 68]⟩) 249 ::
 .str (⟨#[61, 48, 69]⟩) 253 ::
 .str (⟨#[61, 48, 70]⟩) 257 ::
 .str (⟨#[61, 49, 48]⟩) 261 ::
 .str (⟨#[61, 49, 49]⟩) 265 ::
 .str (⟨#[61, 49, 50]⟩) 269 ::
 .str (⟨#[61, 49, 51]⟩) 273 ::
 .str (⟨#[61, 49, 52]⟩) 277 ::
 .str (⟨#[61, 49, 53]⟩) 281 ::
 .str (⟨#[61, 49, 54]⟩) 285 ::
 .str (⟨#[61, 49, 55]⟩) 289 ::
 .str (⟨#[61, 49, 56]⟩) 293 ::
 .str (⟨#[61, 49, 57]⟩) 297 ::
 .str (⟨#[61, 49, 65]⟩) 301 ::
 .str (⟨#[61, 49, 66]⟩) 305 ::
 .str (⟨#[61, 49, 67]⟩) 309 ::
 .str (⟨#[61, 49, 68]⟩) 313 ::
 .str (⟨#[61, 49, 69]⟩) 317 ::
 .str (⟨#[61, 49, 70]⟩) 321 ::
 .str (⟨#[32]⟩) 1450 ::
 .str (⟨#[33]⟩) 1453 ::
 .str (⟨#[34]⟩) 1456 ::
 .str (⟨#[35]⟩) 1459 ::
 .str (⟨#[36]⟩) 1462 ::
 .str (⟨#[37]⟩) 1465 ::
 .str (⟨#[38]⟩) 1468 ::
 .str (⟨#[39]⟩) 1471 ::
 .str (⟨#[40]⟩) 1474 ::
 .str (⟨#[41]⟩) 1477 ::
 .str (⟨#[42]⟩) 1480 ::
 .str (⟨#[43]⟩) 1483 ::
 .str (⟨#[44]⟩) 1486 ::
 .str (⟨#[45]⟩) 1489 ::
 .str (⟨#[46]⟩) 1492 ::
 .str (⟨#[47]⟩) 1495 ::
 .str (⟨#[48]⟩) 1498 ::
 .str (⟨#[49]⟩) 1501 ::
 .str (⟨#[50]⟩) 1504 ::
 .str (⟨#[51]⟩) 1507 ::
 .str (⟨#[52]⟩) 1510 ::
 .str (⟨#[53]⟩) 1513 ::
 .str (⟨#[54]⟩) 1516 ::
 .str (⟨#[55]⟩) 1519 ::
 .str (⟨#[56]⟩) 1522 ::
 .str (⟨#[57]⟩) 1525 ::
 .str (⟨#[58]⟩) 1528 ::
 .str (⟨#[59]⟩) 1531 ::
 .str (⟨#[60]⟩) 1534 ::
 .str (⟨#[61, 51, 68]⟩) 441 ::
 .str (⟨#[62]⟩) 1537 ::
 .str (⟨#[63]⟩) 1540 ::
 .str (⟨#[64]⟩) 1543 ::
 .str (⟨#[65]⟩) 1546 ::
 .str (⟨#[66]⟩) 1549 ::
 .str (⟨#[67]⟩) 1552 ::
 .str (⟨#[68]⟩) 1555 ::
 .str (⟨#[69]⟩) 1558 ::
 .str (⟨#[70]⟩) 1561 ::
 .str (⟨#[71]⟩) 1564 ::
 .str (⟨#[72]⟩) 1567 ::
 .str (⟨#[73]⟩) 1570 ::
 .str (⟨#[74]⟩) 1573 ::
 .str (⟨#[75]⟩) 1576 ::
 .str (⟨#[76]⟩) 1579 ::
 .str (⟨#[77]⟩) 1582 ::
 .str (⟨#[78]⟩) 1585 ::
 .str (⟨#[79]⟩) 1588 ::
 .str (⟨#[80]⟩) 1591 ::
 .str (⟨#[81]⟩) 1594 ::
 .str (⟨#[82]⟩) 1597 ::
 .str (⟨#[83]⟩) 1600 ::
 .str (⟨#[84]⟩) 1603 ::
 .str (⟨#[85]⟩) 1606 ::
 .str (⟨#[86]⟩) 1609 ::
 .str (⟨#[87]⟩) 1612 ::
 .str (⟨#[88]⟩) 1615 ::
 .str (⟨#[89]⟩) 1618 ::
 .str (⟨#[90]⟩) 1621 ::
 .str (⟨#[91]⟩) 1624 ::
 .str (⟨#[92]⟩) 1627 ::
 .str (⟨#[93]⟩) 1630 ::
 .str (⟨#[94]⟩) 1633 ::
 .str (⟨#[95]⟩) 1636 ::
 .str (⟨#[96]⟩) 1639 ::
 .str (⟨#[97]⟩) 1642 ::
 .str (⟨#[98]⟩) 1645 ::
 .str (⟨#[99]⟩) 1648 ::
 .str (⟨#[100]⟩) 1651 ::
 .str (⟨#[101]⟩) 1654 ::
 .str (⟨#[102]⟩) 1657 ::
 .str (⟨#[103]⟩) 1660 ::
 .str (⟨#[104]⟩) 1663 ::
 .str (⟨#[105]⟩) 1666 ::
 .str (⟨#[106]⟩) 1669 ::
 .str (⟨#[107]⟩) 1672 ::
 .str (⟨#[108]⟩) 1675 ::
 .str (⟨#[109]⟩) 1678 ::
 .str (⟨#[110]⟩) 1681 ::
 .str (⟨#[111]⟩) 1684 ::
 .str (⟨#[112]⟩) 1687 ::
 .str (⟨#[113]⟩) 1690 ::
 .str (⟨#[114]⟩) 1693 ::
 .str (⟨#[115]⟩) 1696 ::
 .str (⟨#[116]⟩) 1699 ::
 .str (⟨#[117]⟩) 1702 ::
 .str (⟨#[118]⟩) 1705 ::
 .str (⟨#[119]⟩) 1708 ::
 .str (⟨#[120]⟩) 1711 ::
 .str (⟨#[121]⟩) 1714 ::
 .str (⟨#[122]⟩) 1717 ::
 .str (⟨#[123]⟩) 1720 ::
 .str (⟨#[124]⟩) 1723 ::
 .str (⟨#[125]⟩) 1726 ::
 .str (⟨#[126]⟩) 1729 ::
 .str (⟨#[61, 55, 70]⟩) 705 ::
 .str (⟨#[61, 56, 48]⟩) 709 ::
 .str (⟨#[61, 56, 49]⟩) 713 ::
 .str (⟨#[61, 56, 50]⟩) 717 ::
 .str (⟨#[61, 56, 51]⟩) 721 ::
 .str (⟨#[61, 56, 52]⟩) 725 ::
 .str (⟨#[61, 56, 53]⟩) 729 ::
 .str (⟨#[61, 56, 54]⟩) 733 ::
 .str (⟨#[61, 56, 55]⟩) 737 ::
 .str (⟨#[61, 56, 56]⟩) 741 ::
 .str (⟨#[61, 56, 57]⟩) 745 ::
 .str (⟨#[61, 56, 65]⟩) 749 ::
 .str (⟨#[61, 56, 66]⟩) 753 ::
 .str (⟨#[61, 56, 67]⟩) 757 ::
 .str (⟨#[61, 56, 68]⟩) 761 ::
 .str (⟨#[61, 56, 69]⟩) 765 ::
 .str (⟨#[61, 56, 70]⟩) 769 ::
 .str (⟨#[61, 57, 48]⟩) 773 ::
 .str (⟨#[61, 57, 49]⟩) 777 ::
 .str (⟨#[61, 57, 50]⟩) 781 ::
 .str (⟨#[61, 57, 51]⟩) 785 ::
 .str (⟨#[61, 57, 52]⟩) 789 ::
 .str (⟨#[61, 57, 53]⟩) 793 ::
 .str (⟨#[61, 57, 54]⟩) 797 ::
 .str (⟨#[61, 57, 55]⟩) 801 ::
 .str (⟨#[61, 57, 56]⟩) 805 ::
 .str (⟨#[61, 57, 57]⟩) 809 ::
 .str (⟨#[61, 57, 65]⟩) 813 ::
 .str (⟨#[61, 57, 66]⟩) 817 ::
 .str (⟨#[61, 57, 67]⟩) 821 ::
 .str (⟨#[61, 57, 68]⟩) 825 ::
 .str (⟨#[61, 57, 69]⟩) 829 ::
 .str (⟨#[61, 57, 70]⟩) 833 ::
 .str (⟨#[61, 65, 48]⟩) 837 ::
 .str (⟨#[61, 65, 49]⟩) 841 ::
 .str (⟨#[61, 65, 50]⟩) 845 ::
 .str (⟨#[61, 65, 51]⟩) 849 ::
 .str (⟨#[61, 65, 52]⟩) 853 ::
 .str (⟨#[61, 65, 53]⟩) 857 ::
 .str (⟨#[61, 65, 54]⟩) 861 ::
 .str (⟨#[61, 65, 55]⟩) 865 ::
 .str (⟨#[61, 65, 56]⟩) 869 ::
 .str (⟨#[61, 65, 57]⟩) 873 ::
 .str (⟨#[61, 65, 65]⟩) 877 ::
 .str (⟨#[61, 65, 66]⟩) 881 ::
 .str (⟨#[61, 65, 67]⟩) 885 ::
 .str (⟨#[61, 65, 68]⟩) 889 ::
 .str (⟨#[61, 65, 69]⟩) 893 ::
 .str (⟨#[61, 65, 70]⟩) 897 ::
 .str (⟨#[61, 66, 48]⟩) 901 ::
 .str (⟨#[61, 66, 49]⟩) 905 ::
 .str (⟨#[61, 66, 50]⟩) 909 ::
 .str (⟨#[61, 66, 51]⟩) 913 ::
 .str (⟨#[61, 66, 52]⟩) 917 ::
 .str (⟨#[61, 66, 53]⟩) 921 ::
 .str (⟨#[61, 66, 54]⟩) 925 ::
 .str (⟨#[61, 66, 55]⟩) 929 ::
 .str (⟨#[61, 66, 56]⟩) 933 ::
 .str (⟨#[61, 66, 57]⟩) 937 ::
 .str (⟨#[61, 66, 65]⟩) 941 ::
 .str (⟨#[61, 66, 66]⟩) 945 ::
 .str (⟨#[61, 66, 67]⟩) 949 ::
 .str (⟨#[61, 66, 68]⟩) 953 ::
 .str (⟨#[61, 66, 69]⟩) 957 ::
 .str (⟨#[61, 66, 70]⟩) 961 ::
 .str (⟨#[61, 67, 48]⟩) 965 ::
 .str (⟨#[61, 67, 49]⟩) 969 ::
 .str (⟨#[61, 67, 50]⟩) 973 ::
 .str (⟨#[61, 67, 51]⟩) 977 ::
 .str (⟨#[61, 67, 52]⟩) 981 ::
 .str (⟨#[61, 67, 53]⟩) 985 ::
 .str (⟨#[61, 67, 54]⟩) 989 ::
 .str (⟨#[61, 67, 55]⟩) 993 ::
 .str (⟨#[61, 67, 56]⟩) 997 ::
 .str (⟨#[61, 67, 57]⟩) 1001 ::
 .str (⟨#[61, 67, 65]⟩) 1005 ::
 .str (⟨#[61, 67, 66]⟩) 1009 ::
 .str (⟨#[61, 67, 67]⟩) 1013 ::
 .str (⟨#[61, 67, 68]⟩) 1017 ::
 .str (⟨#[61, 67, 69]⟩) 1021 ::
 .str (⟨#[61, 67, 70]⟩) 1025 ::
 .str (⟨#[61, 68, 48]⟩) 1029 ::
 .str (⟨#[61, 68, 49]⟩) 1033 ::
 .str (⟨#[61, 68, 50]⟩) 1037 ::
 .str (⟨#[61, 68, 51]⟩) 1041 ::
 .str (⟨#[61, 68, 52]⟩) 1045 ::
 .str (⟨#[61, 68, 53]⟩) 1049 ::
 .str (⟨#[61, 68, 54]⟩) 1053 ::
 .str (⟨#[61, 68, 55]⟩) 1057 ::
 .str (⟨#[61, 68, 56]⟩) 1061 ::
 .str (⟨#[61, 68, 57]⟩) 1065 ::
 .str (⟨#[61, 68, 65]⟩) 1069 ::
 .str (⟨#[61, 68, 66]⟩) 1073 ::
 .str (⟨#[61, 68, 67]⟩) 1077 ::
 .str (⟨#[61, 68, 68]⟩) 1081 ::
 .str (⟨#[61, 68, 69]⟩) 1085 ::
 .str (⟨#[61, 68, 70]⟩) 1089 ::
 .str (⟨#[61, 69, 48]⟩) 1093 ::
 .str (⟨#[61, 69, 49]⟩) 1097 ::
 .str (⟨#[61, 69, 50]⟩) 1101 ::
 .str (⟨#[61, 69, 51]⟩) 1105 ::
 .str (⟨#[61, 69, 52]⟩) 1109 ::
 .str (⟨#[61, 69, 53]⟩) 1113 ::
 .str (⟨#[61, 69, 54]⟩) 1117 ::
 .str (⟨#[61, 69, 55]⟩) 1121 ::
 .str (⟨#[61, 69, 56]⟩) 1125 ::
 .str (⟨#[61, 69, 57]⟩) 1129 ::
 .str (⟨#[61, 69, 65]⟩) 1133 ::
 .str (⟨#[61, 69, 66]⟩) 1137 ::
 .str (⟨#[61, 69, 67]⟩) 1141 ::
 .str (⟨#[61, 69, 68]⟩) 1145 ::
 .str (⟨#[61, 69, 69]⟩) 1149 ::
 .str (⟨#[61, 69, 70]⟩) 1153 ::
 .str (⟨#[61, 70, 48]⟩) 1157 ::
 .str (⟨#[61, 70, 49]⟩) 1161 ::
 .str (⟨#[61, 70, 50]⟩) 1165 ::
 .str (⟨#[61, 70, 51]⟩) 1169 ::
 .str (⟨#[61, 70, 52]⟩) 1173 ::
 .str (⟨#[61, 70, 53]⟩) 1177 ::
 .str (⟨#[61, 70, 54]⟩) 1181 ::
 .str (⟨#[61, 70, 55]⟩) 1185 ::
 .str (⟨#[61, 70, 56]⟩) 1189 ::
 .str (⟨#[61, 70, 57]⟩) 1193 ::
 .str (⟨#[61, 70, 65]⟩) 1197 ::
 .str (⟨#[61, 70, 66]⟩) 1201 ::
 .str (⟨#[61, 70, 67]⟩) 1205 ::
 .str (⟨#[61, 70, 68]⟩) 1209 ::
 .str (⟨#[61, 70, 69]⟩) 1213 ::
 .str (⟨#[61, 70, 70]⟩) 1217 ::
 [])) 0, #[]⟩
noncomputable def hdS6t (P : Params) : BT := (.node (PySem.W.boot_o_0 P) (.node (PySem.W.boot_o_1 P) (.node (hdO3v6 P) (.node (PySem.W.boot_o_7 P) (.node (hdO15v1 P) (.node (hdO31v0 P) .nil .nil) .nil) (.node (hdO23v0 P) (.node (hdO39v0 P) .nil .nil) .nil)) (.node (hdO11v0 P) (.node (hdO19v0 P) (.node (hdO35v0 P) .nil .nil) .nil) (.node (hdO27v0 P) (.node (hdO43v0 P) .nil .nil) .nil))) (.node (PySem.W.boot_o_5 P) (.node (PySem.W.boot_o_9 P) (.node (hdO17v1 P) (.node (hdO33v0 P) .nil .nil) .nil) (.node (hdO25v0 P) (.node (hdO41v0 P) .nil .nil) .nil)) (.node (hdO13v0 P) (.node (hdO21v0 P) (.node (hdO37v0 P) .nil .nil) .nil) (.node (hdO29v0 P) (.node (hdO45v0 P) .nil .nil) .nil)))) (.node (PySem.W.boot_o_2 P) (.node (PySem.W.boot_o_4 P) (.node (PySem.W.boot_o_8 P) (.node (hdO16v1 P) (.node (hdO32v0 P) .nil .nil) .nil) (.node (hdO24v1 P) (.node (hdO40v0 P) .nil .nil) .nil)) (.node (hdO12v1 P) (.node (hdO20v0 P) (.node (hdO36v0 P) .nil .nil) .nil) (.node (hdO28v1 P) (.node (hdO44v0 P) .nil .nil) .nil))) (.node (PySem.W.boot_o_6 P) (.node (PySem.W.boot_o_10 P) (.node (hdO18v1 P) (.node (hdO34v0 P) .nil .nil) .nil) (.node (hdO26v0 P) (.node (hdO42v0 P) .nil .nil) .nil)) (.node (hdO14v0 P) (.node (hdO22v2 P) (.node (hdO38v0 P) .nil .nil) .nil) (.node (hdO30v0 P) (.node (hdO46v0 P) .nil .nil) .nil)))))
noncomputable def hdS6 (w : World) (os : OsState) : SharedT := ⟨hdS6t w.params, 47, {}, #[], ⟨0, 0, 0, 0⟩, 1748, os⟩
theorem hdP6 (w : World) (os : OsState) : (hdRun w 86 (hdS5 w os) (hdTh (hdSts 14 3) ⟨15, 9, 15, 110⟩)) = some (.next, hdS6 w os, hdC, ⟨21, 0, 21, 23⟩) := by kernel_rfl
theorem hdR6 (w : World) (os : OsState) : hdRunS w 86 (hdS5 w os).abs (piecesOf (hdSts 14 3) hdEnv hdC ⟨15, 9, 15, 110⟩ hdF) = some (.next, (hdS6 w os).abs, hdC, ⟨21, 0, 21, 23⟩) := hdOf (hdP6 w os)
noncomputable def hdO3v7 (P : Params) : Obj := ⟨.type "dict", none, .dict #[⟨PyData.keyHash P (⟨#[95, 95, 110, 97, 109, 101, 95, 95]⟩), .str (⟨#[95, 95, 110, 97, 109, 101, 95, 95]⟩) 165, .str (⟨#[99, 112, 121, 51, 49, 51, 46, 101, 109, 97, 105, 108, 46, 113, 117, 111, 112, 114, 105, 109, 105, 109, 101]⟩) 1234⟩, ⟨PyData.keyHash P (⟨#[95, 95, 100, 111, 99, 95, 95]⟩), .str (⟨#[95, 95, 100, 111, 99, 95, 95]⟩) 166, .none⟩, ⟨PyData.keyHash P (⟨#[95, 95, 112, 97, 99, 107, 97, 103, 101, 95, 95]⟩), .str (⟨#[95, 95, 112, 97, 99, 107, 97, 103, 101, 95, 95]⟩) 167, .none⟩, ⟨PyData.keyHash P (⟨#[95, 95, 108, 111, 97, 100, 101, 114, 95, 95]⟩), .str (⟨#[95, 95, 108, 111, 97, 100, 101, 114, 95, 95]⟩) 168, .builtin "__main__.__loader__#opaque"⟩, ⟨PyData.keyHash P (⟨#[95, 95, 115, 112, 101, 99, 95, 95]⟩), .str (⟨#[95, 95, 115, 112, 101, 99, 95, 95]⟩) 169, .none⟩, ⟨PyData.keyHash P (⟨#[95, 95, 97, 110, 110, 111, 116, 97, 116, 105, 111, 110, 115, 95, 95]⟩), .str (⟨#[95, 95, 97, 110, 110, 111, 116, 97, 116, 105, 111, 110, 115, 95, 95]⟩) 170, .ref 6⟩, ⟨PyData.keyHash P (⟨#[95, 95, 98, 117, 105, 108, 116, 105, 110, 115, 95, 95]⟩), .str (⟨#[95, 95, 98, 117, 105, 108, 116, 105, 110, 115, 95, 95]⟩) 171, .ref 4⟩, ⟨PyData.keyHash P (⟨#[95, 95, 102, 105, 108, 101, 95, 95]⟩), .str (⟨#[95, 95, 102, 105, 108, 101, 95, 95]⟩) 173, .str (⟨#[47, 99, 108, 97, 105, 109, 47, 99, 117, 116, 46, 112, 121]⟩) 172⟩, ⟨PyData.keyHash P (⟨#[95, 95, 99, 97, 99, 104, 101, 100, 95, 95]⟩), .str (⟨#[95, 95, 99, 97, 99, 104, 101, 100, 95, 95]⟩) 174, .none⟩, ⟨PyData.keyHash P (⟨#[67, 82, 76, 70]⟩), .str (⟨#[67, 82, 76, 70]⟩) 188, .str (⟨#[13, 10]⟩) 187⟩, ⟨PyData.keyHash P (⟨#[78, 76]⟩), .str (⟨#[78, 76]⟩) 190, .str (⟨#[10]⟩) 189⟩, ⟨PyData.keyHash P (⟨#[95, 81, 85, 79, 80, 82, 73, 95, 77, 65, 80]⟩), .str (⟨#[95, 81, 85, 79, 80, 82, 73, 95, 77, 65, 80]⟩) 1218, .ref 17⟩, ⟨PyData.keyHash P (⟨#[95, 81, 85, 79, 80, 82, 73, 95, 72, 69, 65, 68, 69, 82, 95, 77, 65, 80]⟩), .str (⟨#[95, 81, 85, 79, 80, 82, 73, 95, 72, 69, 65, 68, 69, 82, 95, 77, 65, 80]⟩) 1219, .ref 22⟩, ⟨PyData.keyHash P (⟨#[95, 81, 85, 79, 80, 82, 73, 95, 66, 79, 68, 89, 95, 77, 65, 80]⟩), .str (⟨#[95, 81, 85, 79, 80, 82, 73, 95, 66, 79, 68, 89, 95, 77, 65, 80]⟩) 1220, .ref 24⟩, ⟨PyData.keyHash P (⟨#[97, 115, 99, 105, 105, 95, 108, 111, 119, 101, 114, 99, 97, 115, 101]⟩), .str (⟨#[97, 115, 99, 105, 105, 95, 108, 111, 119, 101, 114, 99, 97, 115, 101]⟩) 1222, .str (⟨#[97, 98, 99, 100, 101, 102, 103, 104, 105, 106, 107, 108, 109, 110, 111, 112, 113, 114, 115, 116, 117, 118, 119, 120, 121, 122]⟩) 1221⟩, ⟨PyData.keyHash P (⟨#[97, 115, 99, 105, 105, 95, 117, 112, 112, 101, 114, 99, 97, 115, 101]⟩), .str (⟨#[97, 115, 99, 105, 105, 95, 117, 112, 112, 101, 114, 99, 97, 115, 101]⟩) 1224, .str (⟨#[65, 66, 67, 68, 69, 70, 71, 72, 73, 74, 75, 76, 77, 78, 79, 80, 81, 82, 83, 84, 85, 86, 87, 88, 89, 90]⟩) 1223⟩, ⟨PyData.keyHash P (⟨#[97, 115, 99, 105, 105, 95, 108, 101, 116, 116, 101, 114, 115]⟩), .str (⟨#[97, 115, 99, 105, 105, 95, 108, 101, 116, 116, 101, 114, 115]⟩) 1226, .str (⟨#[97, 98, 99, 100, 101, 102, 103, 104, 105, 106, 107, 108, 109, 110, 111, 112, 113, 114, 115, 116, 117, 118, 119, 120, 121, 122, 65, 66, 67, 68, 69, 70, 71, 72, 73, 74, 75, 76, 77, 78, 79, 80, 81, 82, 83, 84, 85, 86, 87, 88, 89, 90]⟩) 1225⟩, ⟨PyData.keyHash P (⟨#[100, 105, 103, 105, 116, 115]⟩), .str (⟨#[100, 105, 103, 105, 116, 115]⟩) 1228, .str (⟨#[48, 49, 50, 51, 52, 53, 54, 55, 56, 57]⟩) 1227⟩, ⟨PyData.keyHash P (⟨#[104, 101, 120, 100, 105, 103, 105, 116, 115]⟩), .str (⟨#[104, 101, 120, 100, 105, 103, 105, 116, 115]⟩) 1233, .str (⟨#[48, 49, 50, 51, 52, 53, 54, 55, 56, 57, 97, 98, 99, 100, 101, 102, 65, 66, 67, 68, 69, 70]⟩) 1232⟩, ⟨PyData.keyHash P (⟨#[99]⟩), .str (⟨#[99]⟩) 1244, .int 10 1752⟩, ⟨PyData.keyHash P (⟨#[117, 110, 113, 117, 111, 116, 101]⟩), .str (⟨#[117, 110, 113, 117, 111, 116, 101]⟩) 1739, .ref 37⟩, ⟨PyData.keyHash P (⟨#[113, 117, 111, 116, 101]⟩), .str (⟨#[113, 117, 111, 116, 101]⟩) 1746, .ref 44⟩, ⟨PyData.keyHash P (⟨#[95, 81, 85, 79, 80, 82, 73, 95, 66, 79, 68, 89, 95, 69, 78, 67, 79, 68, 69, 95, 77, 65, 80]⟩), .str (⟨#[95, 81, 85, 79, 80, 82, 73, 95, 66, 79, 68, 89, 95, 69, 78, 67, 79, 68, 69, 95, 77, 65, 80]⟩) 1747, .ref 46⟩] 23, #[]⟩
noncomputable def hdO46v1 (P : Params) : Obj := ⟨.type "list", none, .seq (List.toArray (.str (⟨#[61, 48, 48]⟩) 197 ::
 .str (⟨#[61, 48, 49]⟩) 201 ::
 .str (⟨#[61, 48, 50]⟩) 205 ::
 .str (⟨#[61, 48, 51]⟩) 209 ::
 .str (⟨#[61, 48, 52]⟩) 213 ::
 .str (⟨#[61, 48, 53]⟩) 217 ::
 .str (⟨#[61, 48, 54]⟩) 221 ::
 .str (⟨#[61, 48, 55]⟩) 225 ::
 .str (⟨#[61, 48, 56]⟩) 229 ::
 .str (⟨#[9]⟩) 1732 ::
 .str (⟨#[10]⟩) 1754 ::
 .str (⟨#[61, 48, 66]⟩) 241 ::
 .str (⟨#[61, 48, 67]⟩) 245 ::
 .str (⟨#[13]⟩) 1751 ::
 .str (⟨#[61, 48, 69]⟩) 253 ::
 .str (⟨#[61, 48, 70]⟩) 257 ::
 .str (⟨#[61, 49, 48]⟩) 261 ::
 .str (⟨#[61, 49, 49]⟩) 265 ::
 .str (⟨#[61, 49, 50]⟩) 269 ::
 .str (⟨#[61, 49, 51]⟩) 273 ::
 .str (⟨#[61, 49, 52]⟩) 277 ::
 .str (⟨#[61, 49, 53]⟩) 281 ::
 .str (⟨#[61, 49, 54]⟩) 285 ::
 .str (⟨#[61, 49, 55]⟩) 289 ::
 .str (⟨#[61, 49, 56]⟩) 293 ::
 .str (⟨#[61, 49, 57]⟩) 297 ::
 .str (⟨#[61, 49, 65]⟩) 301 ::
 .str (⟨#[61, 49, 66]⟩) 305 ::
 .str (⟨#[61, 49, 67]⟩) 309 ::
 .str (⟨#[61, 49, 68]⟩) 313 ::
 .str (⟨#[61, 49, 69]⟩) 317 ::
 .str (⟨#[61, 49, 70]⟩) 321 ::
 .str (⟨#[32]⟩) 1450 ::
 .str (⟨#[33]⟩) 1453 ::
 .str (⟨#[34]⟩) 1456 ::
 .str (⟨#[35]⟩) 1459 ::
 .str (⟨#[36]⟩) 1462 ::
 .str (⟨#[37]⟩) 1465 ::
 .str (⟨#[38]⟩) 1468 ::
 .str (⟨#[39]⟩) 1471 ::
 .str (⟨#[40]⟩) 1474 ::
 .str (⟨#[41]⟩) 1477 ::
 .str (⟨#[42]⟩) 1480 ::
 .str (⟨#[43]⟩) 1483 ::
 .str (⟨#[44]⟩) 1486 ::
 .str (⟨#[45]⟩) 1489 ::
 .str (⟨#[46]⟩) 1492 ::
 .str (⟨#[47]⟩) 1495 ::
 .str (⟨#[48]⟩) 1498 ::
 .str (⟨#[49]⟩) 1501 ::
 .str (⟨#[50]⟩) 1504 ::
 .str (⟨#[51]⟩) 1507 ::
 .str (⟨#[52]⟩) 1510 ::
 .str (⟨#[53]⟩) 1513 ::
 .str (⟨#[54]⟩) 1516 ::
 .str (⟨#[55]⟩) 1519 ::
 .str (⟨#[56]⟩) 1522 ::
 .str (⟨#[57]⟩) 1525 ::
 .str (⟨#[58]⟩) 1528 ::
 .str (⟨#[59]⟩) 1531 ::
 .str (⟨#[60]⟩) 1534 ::
 .str (⟨#[61, 51, 68]⟩) 441 ::
 .str (⟨#[62]⟩) 1537 ::
 .str (⟨#[63]⟩) 1540 ::
 .str (⟨#[64]⟩) 1543 ::
 .str (⟨#[65]⟩) 1546 ::
 .str (⟨#[66]⟩) 1549 ::
 .str (⟨#[67]⟩) 1552 ::
 .str (⟨#[68]⟩) 1555 ::
 .str (⟨#[69]⟩) 1558 ::
 .str (⟨#[70]⟩) 1561 ::
 .str (⟨#[71]⟩) 1564 ::
 .str (⟨#[72]⟩) 1567 ::
 .str (⟨#[73]⟩) 1570 ::
 .str (⟨#[74]⟩) 1573 ::
 .str (⟨#[75]⟩) 1576 ::
 .str (⟨#[76]⟩) 1579 ::
 .str (⟨#[77]⟩) 1582 ::
 .str (⟨#[78]⟩) 1585 ::
 .str (⟨#[79]⟩) 1588 ::
 .str (⟨#[80]⟩) 1591 ::
 .str (⟨#[81]⟩) 1594 ::
 .str (⟨#[82]⟩) 1597 ::
 .str (⟨#[83]⟩) 1600 ::
 .str (⟨#[84]⟩) 1603 ::
 .str (⟨#[85]⟩) 1606 ::
 .str (⟨#[86]⟩) 1609 ::
 .str (⟨#[87]⟩) 1612 ::
 .str (⟨#[88]⟩) 1615 ::
 .str (⟨#[89]⟩) 1618 ::
 .str (⟨#[90]⟩) 1621 ::
 .str (⟨#[91]⟩) 1624 ::
 .str (⟨#[92]⟩) 1627 ::
 .str (⟨#[93]⟩) 1630 ::
 .str (⟨#[94]⟩) 1633 ::
 .str (⟨#[95]⟩) 1636 ::
 .str (⟨#[96]⟩) 1639 ::
 .str (⟨#[97]⟩) 1642 ::
 .str (⟨#[98]⟩) 1645 ::
 .str (⟨#[99]⟩) 1648 ::
 .str (⟨#[100]⟩) 1651 ::
 .str (⟨#[101]⟩) 1654 ::
 .str (⟨#[102]⟩) 1657 ::
 .str (⟨#[103]⟩) 1660 ::
 .str (⟨#[104]⟩) 1663 ::
 .str (⟨#[105]⟩) 1666 ::
 .str (⟨#[106]⟩) 1669 ::
 .str (⟨#[107]⟩) 1672 ::
 .str (⟨#[108]⟩) 1675 ::
 .str (⟨#[109]⟩) 1678 ::
 .str (⟨#[110]⟩) 1681 ::
 .str (⟨#[111]⟩) 1684 ::
 .str (⟨#[112]⟩) 1687 ::
 .str (⟨#[113]⟩) 1690 ::
 .str (⟨#[114]⟩) 1693 ::
 .str (⟨#[115]⟩) 1696 ::
 .str (⟨#[116]⟩) 1699 ::
 .str (⟨#[117]⟩) 1702 ::
 .str (⟨#[118]⟩) 1705 ::
 .str (⟨#[119]⟩) 1708 ::
 .str (⟨#[120]⟩) 1711 ::
 .str (⟨#[121]⟩) 1714 ::
 .str (⟨#[122]⟩) 1717 ::
 .str (⟨#[123]⟩) 1720 ::
 .str (⟨#[124]⟩) 1723 ::
 .str (⟨#[125]⟩) 1726 ::
 .str (⟨#[126]⟩) 1729 ::
 .str (⟨#[61, 55, 70]⟩) 705 ::
 .str (⟨#[61, 56, 48]⟩) 709 ::
 .str (⟨#[61, 56, 49]⟩) 713 ::
 .str (⟨#[61, 56, 50]⟩) 717 ::
 .str (⟨#[61, 56, 51]⟩) 721 ::
 .str (⟨#[61, 56, 52]⟩) 725 ::
 .str (⟨#[61, 56, 53]⟩) 729 ::
 .str (⟨#[61, 56, 54]⟩) 733 ::
 .str (⟨#[61, 56, 55]⟩) 737 ::
 .str (⟨#[61, 56, 56]⟩) 741 ::
 .str (⟨#[61, 56, 57]⟩) 745 ::
 .str (⟨#[61, 56, 65]⟩) 749 ::
 .str (⟨#[61, 56, 66]⟩) 753 ::
 .str (⟨#[61, 56, 67]⟩) 757 ::
 .str (⟨#[61, 56, 68]⟩) 761 ::
 .str (⟨#[61, 56, 69]⟩) 765 ::
 .str (⟨#[61, 56, 70]⟩) 769 ::
 .str (⟨#[61, 57, 48]⟩) 773 ::
 .str (⟨#[61, 57, 49]⟩) 777 ::
 .str (⟨#[61, 57, 50]⟩) 781 ::
 .str (⟨#[61, 57, 51]⟩) 785 ::
 .str (⟨#[61, 57, 52]⟩) 789 ::
 .str (⟨#[61, 57, 53]⟩) 793 ::
 .str (⟨#[61, 57, 54]⟩) 797 ::
 .str (⟨#[61, 57, 55]⟩) 801 ::
 .str (⟨#[61, 57, 56]⟩) 805 ::
 .str (⟨#[61, 57, 57]⟩) 809 ::
 .str (⟨#[61, 57, 65]⟩) 813 ::
 .str (⟨#[61, 57, 66]⟩) 817 ::
 .str (⟨#[61, 57, 67]⟩) 821 ::
 .str (⟨#[61, 57, 68]⟩) 825 ::
 .str (⟨#[61, 57, 69]⟩) 829 ::
 .str (⟨#[61, 57, 70]⟩) 833 ::
 .str (⟨#[61, 65, 48]⟩) 837 ::
 .str (⟨#[61, 65, 49]⟩) 841 ::
 .str (⟨#[61, 65, 50]⟩) 845 ::
 .str (⟨#[61, 65, 51]⟩) 849 ::
 .str (⟨#[61, 65, 52]⟩) 853 ::
 .str (⟨#[61, 65, 53]⟩) 857 ::
 .str (⟨#[61, 65, 54]⟩) 861 ::
 .str (⟨#[61, 65, 55]⟩) 865 ::
 .str (⟨#[61, 65, 56]⟩) 869 ::
 .str (⟨#[61, 65, 57]⟩) 873 ::
 .str (⟨#[61, 65, 65]⟩) 877 ::
 .str (⟨#[61, 65, 66]⟩) 881 ::
 .str (⟨#[61, 65, 67]⟩) 885 ::
 .str (⟨#[61, 65, 68]⟩) 889 ::
 .str (⟨#[61, 65, 69]⟩) 893 ::
 .str (⟨#[61, 65, 70]⟩) 897 ::
 .str (⟨#[61, 66, 48]⟩) 901 ::
 .str (⟨#[61, 66, 49]⟩) 905 ::
 .str (⟨#[61, 66, 50]⟩) 909 ::
 .str (⟨#[61, 66, 51]⟩) 913 ::
 .str (⟨#[61, 66, 52]⟩) 917 ::
 .str (⟨#[61, 66, 53]⟩) 921 ::
 .str (⟨#[61, 66, 54]⟩) 925 ::
 .str (⟨#[61, 66, 55]⟩) 929 ::
 .str (⟨#[61, 66, 56]⟩) 933 ::
 .str (⟨#[61, 66, 57]⟩) 937 ::
 .str (⟨#[61, 66, 65]⟩) 941 ::
 .str (⟨#[61, 66, 66]⟩) 945 ::
 .str (⟨#[61, 66, 67]⟩) 949 ::
 .str (⟨#[61, 66, 68]⟩) 953 ::
 .str (⟨#[61, 66, 69]⟩) 957 ::
 .str (⟨#[61, 66, 70]⟩) 961 ::
 .str (⟨#[61, 67, 48]⟩) 965 ::
 .str (⟨#[61, 67, 49]⟩) 969 ::
 .str (⟨#[61, 67, 50]⟩) 973 ::
 .str (⟨#[61, 67, 51]⟩) 977 ::
 .str (⟨#[61, 67, 52]⟩) 981 ::
 .str (⟨#[61, 67, 53]⟩) 985 ::
 .str (⟨#[61, 67, 54]⟩) 989 ::
 .str (⟨#[61, 67, 55]⟩) 993 ::
 .str (⟨#[61, 67, 56]⟩) 997 ::
 .str (⟨#[61, 67, 57]⟩) 1001 ::
 .str (⟨#[61, 67, 65]⟩) 1005 ::
 .str (⟨#[61, 67, 66]⟩) 1009 ::
 .str (⟨#[61, 67, 67]⟩) 1013 ::
 .str (⟨#[61, 67, 68]⟩) 1017 ::
 .str (⟨#[61, 67, 69]⟩) 1021 ::
 .str (⟨#[61, 67, 70]⟩) 1025 ::
 .str (⟨#[61, 68, 48]⟩) 1029 ::
 .str (⟨#[61, 68, 49]⟩) 1033 ::
 .str (⟨#[61, 68, 50]⟩) 1037 ::
 .str (⟨#[61, 68, 51]⟩) 1041 ::
 .str (⟨#[61, 68, 52]⟩) 1045 ::
 .str (⟨#[61, 68, 53]⟩) 1049 ::
 .str (⟨#[61, 68, 54]⟩) 1053 ::
 .str (⟨#[61, 68, 55]⟩) 1057 ::
 .str (⟨#[61, 68, 56]⟩) 1061 ::
 .str (⟨#[61, 68, 57]⟩) 1065 ::
 .str (⟨#[61, 68, 65]⟩) 1069 ::
 .str (⟨#[61, 68, 66]⟩) 1073 ::
 .str (⟨#[61, 68, 67]⟩) 1077 ::
 .str (⟨#[61, 68, 68]⟩) 1081 ::
 .str (⟨#[61, 68, 69]⟩) 1085 ::
 .str (⟨#[61, 68, 70]⟩) 1089 ::
 .str (⟨#[61, 69, 48]⟩) 1093 ::
 .str (⟨#[61, 69, 49]⟩) 1097 ::
 .str (⟨#[61, 69, 50]⟩) 1101 ::
 .str (⟨#[61, 69, 51]⟩) 1105 ::
 .str (⟨#[61, 69, 52]⟩) 1109 ::
 .str (⟨#[61, 69, 53]⟩) 1113 ::
 .str (⟨#[61, 69, 54]⟩) 1117 ::
 .str (⟨#[61, 69, 55]⟩) 1121 ::
 .str (⟨#[61, 69, 56]⟩) 1125 ::
 .str (⟨#[61, 69, 57]⟩) 1129 ::
 .str (⟨#[61, 69, 65]⟩) 1133 ::
 .str (⟨#[61, 69, 66]⟩) 1137 ::
 .str (⟨#[61, 69, 67]⟩) 1141 ::
 .str (⟨#[61, 69, 68]⟩) 1145 ::
 .str (⟨#[61, 69, 69]⟩) 1149 ::
 .str (⟨#[61, 69, 70]⟩) 1153 ::
 .str (⟨#[61, 70, 48]⟩) 1157 ::
 .str (⟨#[61, 70, 49]⟩) 1161 ::
 .str (⟨#[61, 70, 50]⟩) 1165 ::
 .str (⟨#[61, 70, 51]⟩) 1169 ::
 .str (⟨#[61, 70, 52]⟩) 1173 ::
 .str (⟨#[61, 70, 53]⟩) 1177 ::
 .str (⟨#[61, 70, 54]⟩) 1181 ::
 .str (⟨#[61, 70, 55]⟩) 1185 ::
 .str (⟨#[61, 70, 56]⟩) 1189 ::
 .str (⟨#[61, 70, 57]⟩) 1193 ::
 .str (⟨#[61, 70, 65]⟩) 1197 ::
 .str (⟨#[61, 70, 66]⟩) 1201 ::
 .str (⟨#[61, 70, 67]⟩) 1205 ::
 .str (⟨#[61, 70, 68]⟩) 1209 ::
 .str (⟨#[61, 70, 69]⟩) 1213 ::
 .str (⟨#[61, 70, 70]⟩) 1217 ::
 [])) 0, #[]⟩
noncomputable def hdO47v0 (P : Params) : Obj := ⟨.type "bytes_iterator", none, .fields #[.none, .int 2 0], #[]⟩
noncomputable def hdO48v0 (P : Params) : Obj := ⟨.type "tuple", none, .seq #[] 0, #[]⟩
noncomputable def hdO49v0 (P : Params) : Obj := ⟨.type "StopIteration", none, .fields #[.ref 48, .none, .none, .none, .bool false, .none], #[]⟩
noncomputable def hdS7t (P : Params) : BT := (.node (PySem.W.boot_o_0 P) (.node (PySem.W.boot_o_1 P) (.node (hdO3v7 P) (.node (PySem.W.boot_o_7 P) (.node (hdO15v1 P) (.node (hdO31v0 P) .nil .nil) (.node (hdO47v0 P) .nil .nil)) (.node (hdO23v0 P) (.node (hdO39v0 P) .nil .nil) .nil)) (.node (hdO11v0 P) (.node (hdO19v0 P) (.node (hdO35v0 P) .nil .nil) .nil) (.node (hdO27v0 P) (.node (hdO43v0 P) .nil .nil) .nil))) (.node (PySem.W.boot_o_5 P) (.node (PySem.W.boot_o_9 P) (.node (hdO17v1 P) (.node (hdO33v0 P) .nil .nil) (.node (hdO49v0 P) .nil .nil)) (.node (hdO25v0 P) (.node (hdO41v0 P) .nil .nil) .nil)) (.node (hdO13v0 P) (.node (hdO21v0 P) (.node (hdO37v0 P) .nil .nil) .nil) (.node (hdO29v0 P) (.node (hdO45v0 P) .nil .nil) .nil)))) (.node (PySem.W.boot_o_2 P) (.node (PySem.W.boot_o_4 P) (.node (PySem.W.boot_o_8 P) (.node (hdO16v1 P) (.node (hdO32v0 P) .nil .nil) (.node (hdO48v0 P) .nil .nil)) (.node (hdO24v1 P) (.node (hdO40v0 P) .nil .nil) .nil)) (.node (hdO12v1 P) (.node (hdO20v0 P) (.node (hdO36v0 P) .nil .nil) .nil) (.node (hdO28v1 P) (.node (hdO44v0 P) .nil .nil) .nil))) (.node (PySem.W.boot_o_6 P) (.node (PySem.W.boot_o_10 P) (.node (hdO18v1 P) (.node (hdO34v0 P) .nil .nil) .nil) (.node (hdO26v0 P) (.node (hdO42v0 P) .nil .nil) .nil)) (.node (hdO14v0 P) (.node (hdO22v2 P) (.node (hdO38v0 P) .nil .nil) .nil) (.node (hdO30v0 P) (.node (hdO46v1 P) .nil .nil) .nil)))))
noncomputable def hdS7 (w : World) (os : OsState) : SharedT := ⟨hdS7t w.params, 50, {}, #[], ⟨0, 0, 0, 0⟩, 1755, os⟩
theorem hdP7f (w : World) (os : OsState) : (hdRun (w.withFollow "special-get-raises" false) 118 (hdS6 (w.withFollow "special-get-raises" false) os) (hdTh (hdSts 17 1) ⟨21, 0, 21, 23⟩)) = some (.next, hdS7 (w.withFollow "special-get-raises" false) os, hdC, ⟨22, 9, 22, 16⟩) := by kernel_rfl
theorem hdP7t (w : World) (os : OsState) : (hdRun (w.withFollow "special-get-raises" true) 118 (hdS6 (w.withFollow "special-get-raises" true) os) (hdTh (hdSts 17 1) ⟨21, 0, 21, 23⟩)) = some (.next, hdS7 (w.withFollow "special-get-raises" true) os, hdC, ⟨22, 9, 22, 16⟩) := by kernel_rfl
theorem hdP7 (w : World) (os : OsState) : (hdRun w 118 (hdS6 w os) (hdTh (hdSts 17 1) ⟨21, 0, 21, 23⟩)) = some (.next, hdS7 w os, hdC, ⟨22, 9, 22, 16⟩) := byRow2 "special-get-raises" (P := fun w => (hdRun w 118 (hdS6 w os) (hdTh (hdSts 17 1) ⟨21, 0, 21, 23⟩)) = some (.next, hdS7 w os, hdC, ⟨22, 9, 22, 16⟩)) (fun w => hdP7f w os) (fun w => hdP7t w os) w
theorem hdR7 (w : World) (os : OsState) : hdRunS w 118 (hdS6 w os).abs (piecesOf (hdSts 17 1) hdEnv hdC ⟨21, 0, 21, 23⟩ hdF) = some (.next, (hdS7 w os).abs, hdC, ⟨22, 9, 22, 16⟩) := hdOf (hdP7 w os)
noncomputable def hdO3v8 (P : Params) : Obj := ⟨.type "dict", none, .dict #[⟨PyData.keyHash P (⟨#[95, 95, 110, 97, 109, 101, 95, 95]⟩), .str (⟨#[95, 95, 110, 97, 109, 101, 95, 95]⟩) 165, .str (⟨#[108, 97, 119, 95, 110, 121, 48, 49, 54, 49, 95, 48, 50]⟩) 1799⟩, ⟨PyData.keyHash P (⟨#[95, 95, 100, 111, 99, 95, 95]⟩), .str (⟨#[95, 95, 100, 111, 99, 95, 95]⟩) 166, .none⟩, ⟨PyData.keyHash P (⟨#[95, 95, 112, 97, 99, 107, 97, 103, 101, 95, 95]⟩), .str (⟨#[95, 95, 112, 97, 99, 107, 97, 103, 101, 95, 95]⟩) 167, .none⟩, ⟨PyData.keyHash P (⟨#[95, 95, 108, 111, 97, 100, 101, 114, 95, 95]⟩), .str (⟨#[95, 95, 108, 111, 97, 100, 101, 114, 95, 95]⟩) 168, .builtin "__main__.__loader__#opaque"⟩, ⟨PyData.keyHash P (⟨#[95, 95, 115, 112, 101, 99, 95, 95]⟩), .str (⟨#[95, 95, 115, 112, 101, 99, 95, 95]⟩) 169, .none⟩, ⟨PyData.keyHash P (⟨#[95, 95, 97, 110, 110, 111, 116, 97, 116, 105, 111, 110, 115, 95, 95]⟩), .str (⟨#[95, 95, 97, 110, 110, 111, 116, 97, 116, 105, 111, 110, 115, 95, 95]⟩) 170, .ref 6⟩, ⟨PyData.keyHash P (⟨#[95, 95, 98, 117, 105, 108, 116, 105, 110, 115, 95, 95]⟩), .str (⟨#[95, 95, 98, 117, 105, 108, 116, 105, 110, 115, 95, 95]⟩) 171, .ref 4⟩, ⟨PyData.keyHash P (⟨#[95, 95, 102, 105, 108, 101, 95, 95]⟩), .str (⟨#[95, 95, 102, 105, 108, 101, 95, 95]⟩) 173, .str (⟨#[47, 99, 108, 97, 105, 109, 47, 99, 117, 116, 46, 112, 121]⟩) 172⟩, ⟨PyData.keyHash P (⟨#[95, 95, 99, 97, 99, 104, 101, 100, 95, 95]⟩), .str (⟨#[95, 95, 99, 97, 99, 104, 101, 100, 95, 95]⟩) 174, .none⟩, ⟨PyData.keyHash P (⟨#[67, 82, 76, 70]⟩), .str (⟨#[67, 82, 76, 70]⟩) 188, .str (⟨#[13, 10]⟩) 187⟩, ⟨PyData.keyHash P (⟨#[78, 76]⟩), .str (⟨#[78, 76]⟩) 190, .str (⟨#[10]⟩) 189⟩, ⟨PyData.keyHash P (⟨#[95, 81, 85, 79, 80, 82, 73, 95, 77, 65, 80]⟩), .str (⟨#[95, 81, 85, 79, 80, 82, 73, 95, 77, 65, 80]⟩) 1218, .ref 17⟩, ⟨PyData.keyHash P (⟨#[95, 81, 85, 79, 80, 82, 73, 95, 72, 69, 65, 68, 69, 82, 95, 77, 65, 80]⟩), .str (⟨#[95, 81, 85, 79, 80, 82, 73, 95, 72, 69, 65, 68, 69, 82, 95, 77, 65, 80]⟩) 1219, .ref 22⟩, ⟨PyData.keyHash P (⟨#[95, 81, 85, 79, 80, 82, 73, 95, 66, 79, 68, 89, 95, 77, 65, 80]⟩), .str (⟨#[95, 81, 85, 79, 80, 82, 73, 95, 66, 79, 68, 89, 95, 77, 65, 80]⟩) 1220, .ref 24⟩, ⟨PyData.keyHash P (⟨#[97, 115, 99, 105, 105, 95, 108, 111, 119, 101, 114, 99, 97, 115, 101]⟩), .str (⟨#[97, 115, 99, 105, 105, 95, 108, 111, 119, 101, 114, 99, 97, 115, 101]⟩) 1222, .str (⟨#[97, 98, 99, 100, 101, 102, 103, 104, 105, 106, 107, 108, 109, 110, 111, 112, 113, 114, 115, 116, 117, 118, 119, 120, 121, 122]⟩) 1221⟩, ⟨PyData.keyHash P (⟨#[97, 115, 99, 105, 105, 95, 117, 112, 112, 101, 114, 99, 97, 115, 101]⟩), .str (⟨#[97, 115, 99, 105, 105, 95, 117, 112, 112, 101, 114, 99, 97, 115, 101]⟩) 1224, .str (⟨#[65, 66, 67, 68, 69, 70, 71, 72, 73, 74, 75, 76, 77, 78, 79, 80, 81, 82, 83, 84, 85, 86, 87, 88, 89, 90]⟩) 1223⟩, ⟨PyData.keyHash P (⟨#[97, 115, 99, 105, 105, 95, 108, 101, 116, 116, 101, 114, 115]⟩), .str (⟨#[97, 115, 99, 105, 105, 95, 108, 101, 116, 116, 101, 114, 115]⟩) 1226, .str (⟨#[97, 98, 99, 100, 101, 102, 103, 104, 105, 106, 107, 108, 109, 110, 111, 112, 113, 114, 115, 116, 117, 118, 119, 120, 121, 122, 65, 66, 67, 68, 69, 70, 71, 72, 73, 74, 75, 76, 77, 78, 79, 80, 81, 82, 83, 84, 85, 86, 87, 88, 89, 90]⟩) 1225⟩, ⟨PyData.keyHash P (⟨#[100, 105, 103, 105, 116, 115]⟩), .str (⟨#[100, 105, 103, 105, 116, 115]⟩) 1228, .str (⟨#[48, 49, 50, 51, 52, 53, 54, 55, 56, 57]⟩) 1227⟩, ⟨PyData.keyHash P (⟨#[104, 101, 120, 100, 105, 103, 105, 116, 115]⟩), .str (⟨#[104, 101, 120, 100, 105, 103, 105, 116, 115]⟩) 1233, .str (⟨#[48, 49, 50, 51, 52, 53, 54, 55, 56, 57, 97, 98, 99, 100, 101, 102, 65, 66, 67, 68, 69, 70]⟩) 1232⟩, ⟨PyData.keyHash P (⟨#[117, 110, 113, 117, 111, 116, 101]⟩), .str (⟨#[117, 110, 113, 117, 111, 116, 101]⟩) 1739, .ref 37⟩, ⟨PyData.keyHash P (⟨#[113, 117, 111, 116, 101]⟩), .str (⟨#[113, 117, 111, 116, 101]⟩) 1746, .ref 44⟩, ⟨PyData.keyHash P (⟨#[95, 81, 85, 79, 80, 82, 73, 95, 66, 79, 68, 89, 95, 69, 78, 67, 79, 68, 69, 95, 77, 65, 80]⟩), .str (⟨#[95, 81, 85, 79, 80, 82, 73, 95, 66, 79, 68, 89, 95, 69, 78, 67, 79, 68, 69, 95, 77, 65, 80]⟩) 1747, .ref 46⟩, ⟨PyData.keyHash P (⟨#[98, 111, 100, 121, 95, 101, 110, 99, 111, 100, 101]⟩), .str (⟨#[98, 111, 100, 121, 95, 101, 110, 99, 111, 100, 101]⟩) 1774, .ref 57⟩, ⟨PyData.keyHash P (⟨#[100, 101, 99, 111, 100, 101]⟩), .str (⟨#[100, 101, 99, 111, 100, 101]⟩) 1787, .ref 65⟩, ⟨PyData.keyHash P (⟨#[95, 112, 97, 114, 115, 101, 95, 118, 97, 114, 105, 110, 116]⟩), .str (⟨#[95, 112, 97, 114, 115, 101, 95, 118, 97, 114, 105, 110, 116]⟩) 1798, .ref 72⟩, ⟨PyData.keyHash P (⟨#[95, 108, 97, 119, 95, 111, 99, 116, 101, 116, 115]⟩), .str (⟨#[95, 108, 97, 119, 95, 111, 99, 116, 101, 116, 115]⟩) 1814, .ref 79⟩, ⟨PyData.keyHash P (⟨#[95, 108, 97, 119, 95, 116, 111, 107, 101, 110, 115]⟩), .str (⟨#[95, 108, 97, 119, 95, 116, 111, 107, 101, 110, 115]⟩) 1827, .ref 86⟩, ⟨PyData.keyHash P (⟨#[95, 108, 97, 119, 95, 108, 101, 102, 116]⟩), .str (⟨#[95, 108, 97, 119, 95, 108, 101, 102, 116]⟩) 1833, .ref 91⟩, ⟨PyData.keyHash P (⟨#[95, 108, 97, 119, 95, 110, 117, 109, 98, 101, 114, 115]⟩), .str (⟨#[95, 108, 97, 119, 95, 110, 117, 109, 98, 101, 114, 115]⟩) 1844, .ref 98⟩, ⟨PyData.keyHash P (⟨#[95, 108, 97, 119, 95, 114, 101, 97, 100]⟩), .str (⟨#[95, 108, 97, 119, 95, 114, 101, 97, 100]⟩) 1850, .ref 103⟩, ⟨PyData.keyHash P (⟨#[108, 97, 119]⟩), .str (⟨#[108, 97, 119]⟩) 1856, .ref 108⟩] 33, #[]⟩
noncomputable def hdO12v2 (P : Params) : Obj := ⟨.none, none, .fields #[.int 17 0, .int 0 0, .ref 36, .int 19 0, .int 0 0, .ref 43, .int 25 0, .int 0 0, .ref 56, .int 63 0, .int 0 0, .ref 64, .int 94 0, .int 0 0, .ref 71, .int 103 0, .int 0 0, .ref 78, .int 115 0, .int 0 0, .ref 85, .int 131 0, .int 0 0, .ref 90, .int 148 0, .int 0 0, .ref 97, .int 162 0, .int 0 0, .ref 102, .int 170 0, .int 0 0, .ref 107], #[]⟩
noncomputable def hdO50v0 (P : Params) : Obj := ⟨.type "tuple", none, .seq #[.int 76 1755, .str (⟨#[10]⟩) 189] 0, #[]⟩
noncomputable def hdO51v0 (P : Params) : Obj := ⟨.type "tuple", none, .seq #[] 0, #[]⟩
noncomputable def hdO52v0 (P : Params) : Obj := ⟨.none, none, .fields #[], #[]⟩
noncomputable def hdO53v0 (P : Params) : Obj := ⟨.type "tuple", none, .seq #[.str (⟨#[98, 111, 100, 121]⟩) 1759, .str (⟨#[109, 97, 120, 108, 105, 110, 101, 108, 101, 110]⟩) 1760, .str (⟨#[101, 111, 108]⟩) 1761, .str (⟨#[115, 111, 102, 116, 95, 98, 114, 101, 97, 107]⟩) 1762, .str (⟨#[109, 97, 120, 108, 105, 110, 101, 108, 101, 110, 49]⟩) 1763, .str (⟨#[101, 110, 99, 111, 100, 101, 100, 95, 98, 111, 100, 121]⟩) 1764, .str (⟨#[97, 112, 112, 101, 110, 100]⟩) 1765, .str (⟨#[108, 105, 110, 101]⟩) 1766, .str (⟨#[115, 116, 97, 114, 116]⟩) 1767, .str (⟨#[108, 97, 115, 116, 115, 116, 97, 114, 116]⟩) 1768, .str (⟨#[115, 116, 111, 112]⟩) 1769, .str (⟨#[114, 111, 111, 109]⟩) 1770, .str (⟨#[113]⟩) 1771] 0, #[]⟩
noncomputable def hdO54v0 (P : Params) : Obj := ⟨.type "tuple", none, .seq #[] 0, #[]⟩
noncomputable def hdO55v0 (P : Params) : Obj := hdFn 19 (.none) 0 (.none) (.none) (.none) (.none) (.none)
noncomputable def hdO56v0 (P : Params) : Obj := ⟨.type "code", none, .fields #[.str (⟨#[98, 111, 100, 121, 95, 101, 110, 99, 111, 100, 101]⟩) 1756, .str (⟨#[98, 111, 100, 121, 95, 101, 110, 99, 111, 100, 101]⟩) 1757, .str (⟨#[47, 99, 108, 97, 105, 109, 47, 99, 117, 116, 46, 112, 121]⟩) 1758, .int 25 0, .int 3 0, .int 0 0, .int 0 0, .int 3 0, .ref 51, .bool true, .int 181 0, .ref 52, .none, .ref 53, .ref 54, .ref 55, .int 1772 0, .int 25 0, .str (⟨#[47, 99, 108, 97, 105, 109, 47, 99, 117, 116, 46, 112, 121]⟩) 1773], #[]⟩
noncomputable def hdO57v0 (P : Params) : Obj := hdFn 19 (.type "function") 3 (.ref 50) (.none) (.none) (.str (⟨#[99, 112, 121, 51, 49, 51, 46, 101, 109, 97, 105, 108, 46, 113, 117, 111, 112, 114, 105, 109, 105, 109, 101]⟩) 1234) (.ref 56)
noncomputable def hdO58v0 (P : Params) : Obj := ⟨.type "tuple", none, .seq #[.str (⟨#[10]⟩) 189] 0, #[]⟩
noncomputable def hdO59v0 (P : Params) : Obj := ⟨.type "tuple", none, .seq #[] 0, #[]⟩
noncomputable def hdO60v0 (P : Params) : Obj := ⟨.none, none, .fields #[], #[]⟩
noncomputable def hdO61v0 (P : Params) : Obj := ⟨.type "tuple", none, .seq #[.str (⟨#[101, 110, 99, 111, 100, 101, 100]⟩) 1778, .str (⟨#[101, 111, 108]⟩) 1779, .str (⟨#[100, 101, 99, 111, 100, 101, 100]⟩) 1780, .str (⟨#[108, 105, 110, 101]⟩) 1781, .str (⟨#[105]⟩) 1782, .str (⟨#[110]⟩) 1783, .str (⟨#[99]⟩) 1784] 0, #[]⟩
noncomputable def hdO62v0 (P : Params) : Obj := ⟨.type "tuple", none, .seq #[] 0, #[]⟩
noncomputable def hdO63v0 (P : Params) : Obj := hdFn 20 (.none) 0 (.none) (.none) (.none) (.none) (.none)
noncomputable def hdO64v0 (P : Params) : Obj := ⟨.type "code", none, .fields #[.str (⟨#[100, 101, 99, 111, 100, 101]⟩) 1775, .str (⟨#[100, 101, 99, 111, 100, 101]⟩) 1776, .str (⟨#[47, 99, 108, 97, 105, 109, 47, 99, 117, 116, 46, 112, 121]⟩) 1777, .int 63 0, .int 2 0, .int 0 0, .int 0 0, .int 3 0, .ref 59, .bool true, .int 181 0, .ref 60, .none, .ref 61, .ref 62, .ref 63, .int 1785 0, .int 63 0, .str (⟨#[47, 99, 108, 97, 105, 109, 47, 99, 117, 116, 46, 112, 121]⟩) 1786], #[]⟩
noncomputable def hdO65v0 (P : Params) : Obj := hdFn 20 (.type "function") 3 (.ref 58) (.none) (.none) (.str (⟨#[99, 112, 121, 51, 49, 51, 46, 101, 109, 97, 105, 108, 46, 113, 117, 111, 112, 114, 105, 109, 105, 109, 101]⟩) 1234) (.ref 64)
noncomputable def hdO66v0 (P : Params) : Obj := ⟨.type "tuple", none, .seq #[] 0, #[]⟩
noncomputable def hdO67v0 (P : Params) : Obj := ⟨.none, none, .fields #[], #[]⟩
noncomputable def hdO68v0 (P : Params) : Obj := ⟨.type "tuple", none, .seq #[.str (⟨#[105, 116, 101, 114, 97, 116, 111, 114]⟩) 1793, .str (⟨#[98]⟩) 1794, .str (⟨#[118, 97, 108]⟩) 1795] 0, #[]⟩
noncomputable def hdO69v0 (P : Params) : Obj := ⟨.type "tuple", none, .seq #[] 0, #[]⟩
noncomputable def hdO70v0 (P : Params) : Obj := hdFn 22 (.none) 0 (.none) (.none) (.none) (.none) (.none)
noncomputable def hdO71v0 (P : Params) : Obj := ⟨.type "code", none, .fields #[.str (⟨#[95, 112, 97, 114, 115, 101, 95, 118, 97, 114, 105, 110, 116]⟩) 1790, .str (⟨#[95, 112, 97, 114, 115, 101, 95, 118, 97, 114, 105, 110, 116]⟩) 1791, .str (⟨#[47, 99, 108, 97, 105, 109, 47, 99, 117, 116, 46, 112, 121]⟩) 1792, .int 94 0, .int 1 0, .int 0 0, .int 0 0, .int 3 0, .ref 66, .bool true, .int 181 0, .ref 67, .none, .ref 68, .ref 69, .ref 70, .int 1796 0, .int 94 0, .str (⟨#[47, 99, 108, 97, 105, 109, 47, 99, 117, 116, 46, 112, 121]⟩) 1797], #[]⟩
noncomputable def hdO72v0 (P : Params) : Obj := hdFn 22 (.type "function") 3 (.none) (.none) (.none) (.str (⟨#[99, 112, 121, 51, 49, 51, 46, 100, 105, 115]⟩) 1788) (.ref 71)
noncomputable def hdO73v0 (P : Params) : Obj := ⟨.type "tuple", none, .seq #[] 0, #[]⟩
noncomputable def hdO74v0 (P : Params) : Obj := ⟨.none, none, .fields #[], #[]⟩
noncomputable def hdO75v0 (P : Params) : Obj := ⟨.type "tuple", none, .seq #[.str (⟨#[115, 99, 114, 105, 112, 116]⟩) 1804, .str (⟨#[111, 99, 116, 101, 116, 115]⟩) 1805, .str (⟨#[120]⟩) 1806, .str (⟨#[114, 101, 115, 116]⟩) 1807, .str (⟨#[119, 105, 100, 116, 104]⟩) 1808, .str (⟨#[108, 97, 115, 116]⟩) 1809, .str (⟨#[104, 105, 103, 104]⟩) 1810, .str (⟨#[107]⟩) 1811] 0, #[]⟩
noncomputable def hdO76v0 (P : Params) : Obj := ⟨.type "tuple", none, .seq #[] 0, #[]⟩
noncomputable def hdO77v0 (P : Params) : Obj := hdFn 24 (.none) 0 (.none) (.none) (.none) (.none) (.none)
noncomputable def hdO78v0 (P : Params) : Obj := ⟨.type "code", none, .fields #[.str (⟨#[95, 108, 97, 119, 95, 111, 99, 116, 101, 116, 115]⟩) 1801, .str (⟨#[95, 108, 97, 119, 95, 111, 99, 116, 101, 116, 115]⟩) 1802, .str (⟨#[47, 99, 108, 97, 105, 109, 47, 99, 117, 116, 46, 112, 121]⟩) 1803, .int 103 0, .int 1 0, .int 0 0, .int 0 0, .int 3 0, .ref 73, .bool true, .int 181 0, .ref 74, .none, .ref 75, .ref 76, .ref 77, .int 1812 0, .int 103 0, .str (⟨#[47, 99, 108, 97, 105, 109, 47, 99, 117, 116, 46, 112, 121]⟩) 1813], #[]⟩
noncomputable def hdO79v0 (P : Params) : Obj := hdFn 24 (.type "function") 3 (.none) (.none) (.none) (.str (⟨#[108, 97, 119, 95, 110, 121, 48, 49, 54, 49, 95, 48, 50]⟩) 1799) (.ref 78)
noncomputable def hdO80v0 (P : Params) : Obj := ⟨.type "tuple", none, .seq #[] 0, #[]⟩
noncomputable def hdO81v0 (P : Params) : Obj := ⟨.none, none, .fields #[], #[]⟩
noncomputable def hdO82v0 (P : Params) : Obj := ⟨.type "tuple", none, .seq #[.str (⟨#[108, 101, 116, 116, 101, 114]⟩) 1818, .str (⟨#[101, 110, 100, 115]⟩) 1819, .str (⟨#[102, 105, 103, 117, 114, 101, 115]⟩) 1820, .str (⟨#[116, 111, 107, 101, 110, 115]⟩) 1821, .str (⟨#[107]⟩) 1822, .str (⟨#[115, 105, 122, 101]⟩) 1823, .str (⟨#[111, 99, 116, 101, 116, 115]⟩) 1824] 0, #[]⟩
noncomputable def hdO83v0 (P : Params) : Obj := ⟨.type "tuple", none, .seq #[] 0, #[]⟩
noncomputable def hdO84v0 (P : Params) : Obj := hdFn 25 (.none) 0 (.none) (.none) (.none) (.none) (.none)
noncomputable def hdO85v0 (P : Params) : Obj := ⟨.type "code", none, .fields #[.str (⟨#[95, 108, 97, 119, 95, 116, 111, 107, 101, 110, 115]⟩) 1815, .str (⟨#[95, 108, 97, 119, 95, 116, 111, 107, 101, 110, 115]⟩) 1816, .str (⟨#[47, 99, 108, 97, 105, 109, 47, 99, 117, 116, 46, 112, 121]⟩) 1817, .int 115 0, .int 2 0, .int 0 0, .int 0 0, .int 3 0, .ref 80, .bool true, .int 181 0, .ref 81, .none, .ref 82, .ref 83, .ref 84, .int 1825 0, .int 115 0, .str (⟨#[47, 99, 108, 97, 105, 109, 47, 99, 117, 116, 46, 112, 121]⟩) 1826], #[]⟩
noncomputable def hdO86v0 (P : Params) : Obj := hdFn 25 (.type "function") 3 (.none) (.none) (.none) (.str (⟨#[108, 97, 119, 95, 110, 121, 48, 49, 54, 49, 95, 48, 50]⟩) 1799) (.ref 85)
noncomputable def hdO87v0 (P : Params) : Obj := ⟨.type "tuple", none, .seq #[] 0, #[]⟩
noncomputable def hdO88v0 (P : Params) : Obj := ⟨.none, none, .fields #[], #[]⟩
noncomputable def hdO89v0 (P : Params) : Obj := hdFn 26 (.none) 0 (.none) (.none) (.none) (.none) (.none)
noncomputable def hdO90v0 (P : Params) : Obj := ⟨.type "code", none, .fields #[.str (⟨#[95, 108, 97, 119, 95, 108, 101, 102, 116]⟩) 1828, .str (⟨#[95, 108, 97, 119, 95, 108, 101, 102, 116]⟩) 1829, .str (⟨#[47, 99, 108, 97, 105, 109, 47, 99, 117, 116, 46, 112, 121]⟩) 1830, .int 131 0, .int 3 0, .int 0 0, .int 0 0, .int 3 0, .ref 87, .bool true, .int 181 0, .ref 88, .none, .none, .none, .ref 89, .int 1831 0, .int 131 0, .str (⟨#[47, 99, 108, 97, 105, 109, 47, 99, 117, 116, 46, 112, 121]⟩) 1832], #[]⟩
noncomputable def hdO91v0 (P : Params) : Obj := hdFn 26 (.type "function") 3 (.none) (.none) (.none) (.str (⟨#[108, 97, 119, 95, 110, 121, 48, 49, 54, 49, 95, 48, 50]⟩) 1799) (.ref 90)
noncomputable def hdO92v0 (P : Params) : Obj := ⟨.type "tuple", none, .seq #[] 0, #[]⟩
noncomputable def hdO93v0 (P : Params) : Obj := ⟨.none, none, .fields #[], #[]⟩
noncomputable def hdO94v0 (P : Params) : Obj := ⟨.type "tuple", none, .seq #[.str (⟨#[111, 99, 116, 101, 116, 115]⟩) 1837, .str (⟨#[110, 117, 109, 98, 101, 114, 115]⟩) 1838, .str (⟨#[118, 97, 108, 117, 101]⟩) 1839, .str (⟨#[119, 111, 114, 116, 104]⟩) 1840, .str (⟨#[111, 99, 116, 101, 116]⟩) 1841] 0, #[]⟩
noncomputable def hdO95v0 (P : Params) : Obj := ⟨.type "tuple", none, .seq #[] 0, #[]⟩
noncomputable def hdO96v0 (P : Params) : Obj := hdFn 27 (.none) 0 (.none) (.none) (.none) (.none) (.none)
noncomputable def hdO97v0 (P : Params) : Obj := ⟨.type "code", none, .fields #[.str (⟨#[95, 108, 97, 119, 95, 110, 117, 109, 98, 101, 114, 115]⟩) 1834, .str (⟨#[95, 108, 97, 119, 95, 110, 117, 109, 98, 101, 114, 115]⟩) 1835, .str (⟨#[47, 99, 108, 97, 105, 109, 47, 99, 117, 116, 46, 112, 121]⟩) 1836, .int 148 0, .int 1 0, .int 0 0, .int 0 0, .int 3 0, .ref 92, .bool true, .int 181 0, .ref 93, .none, .ref 94, .ref 95, .ref 96, .int 1842 0, .int 148 0, .str (⟨#[47, 99, 108, 97, 105, 109, 47, 99, 117, 116, 46, 112, 121]⟩) 1843], #[]⟩
noncomputable def hdO98v0 (P : Params) : Obj := hdFn 27 (.type "function") 3 (.none) (.none) (.none) (.str (⟨#[108, 97, 119, 95, 110, 121, 48, 49, 54, 49, 95, 48, 50]⟩) 1799) (.ref 97)
noncomputable def hdO99v0 (P : Params) : Obj := ⟨.type "tuple", none, .seq #[] 0, #[]⟩
noncomputable def hdO100v0 (P : Params) : Obj := ⟨.none, none, .fields #[], #[]⟩
noncomputable def hdO101v0 (P : Params) : Obj := hdFn 28 (.none) 0 (.none) (.none) (.none) (.none) (.none)
noncomputable def hdO102v0 (P : Params) : Obj := ⟨.type "code", none, .fields #[.str (⟨#[95, 108, 97, 119, 95, 114, 101, 97, 100]⟩) 1845, .str (⟨#[95, 108, 97, 119, 95, 114, 101, 97, 100]⟩) 1846, .str (⟨#[47, 99, 108, 97, 105, 109, 47, 99, 117, 116, 46, 112, 121]⟩) 1847, .int 162 0, .int 1 0, .int 0 0, .int 0 0, .int 3 0, .ref 99, .bool true, .int 181 0, .ref 100, .none, .none, .none, .ref 101, .int 1848 0, .int 162 0, .str (⟨#[47, 99, 108, 97, 105, 109, 47, 99, 117, 116, 46, 112, 121]⟩) 1849], #[]⟩
noncomputable def hdO103v0 (P : Params) : Obj := hdFn 28 (.type "function") 3 (.none) (.none) (.none) (.str (⟨#[108, 97, 119, 95, 110, 121, 48, 49, 54, 49, 95, 48, 50]⟩) 1799) (.ref 102)
noncomputable def hdO104v0 (P : Params) : Obj := ⟨.type "tuple", none, .seq #[] 0, #[]⟩
noncomputable def hdO105v0 (P : Params) : Obj := ⟨.none, none, .fields #[], #[]⟩
noncomputable def hdO106v0 (P : Params) : Obj := hdFn 29 (.none) 0 (.none) (.none) (.none) (.none) (.none)
noncomputable def hdO107v0 (P : Params) : Obj := ⟨.type "code", none, .fields #[.str (⟨#[108, 97, 119]⟩) 1851, .str (⟨#[108, 97, 119]⟩) 1852, .str (⟨#[47, 99, 108, 97, 105, 109, 47, 99, 117, 116, 46, 112, 121]⟩) 1853, .int 170 0, .int 1 0, .int 0 0, .int 0 0, .int 3 0, .ref 104, .bool true, .int 181 0, .ref 105, .none, .none, .none, .ref 106, .int 1854 0, .int 170 0, .str (⟨#[47, 99, 108, 97, 105, 109, 47, 99, 117, 116, 46, 112, 121]⟩) 1855], #[]⟩
noncomputable def hdO108v0 (P : Params) : Obj := hdFn 29 (.type "function") 3 (.none) (.none) (.none) (.str (⟨#[108, 97, 119, 95, 110, 121, 48, 49, 54, 49, 95, 48, 50]⟩) 1799) (.ref 107)
noncomputable def hdS8t (P : Params) : BT := (.node (PySem.W.boot_o_0 P) (.node (PySem.W.boot_o_1 P) (.node (hdO3v8 P) (.node (PySem.W.boot_o_7 P) (.node (hdO15v1 P) (.node (hdO31v0 P) (.node (hdO63v0 P) .nil .nil) (.node (hdO95v0 P) .nil .nil)) (.node (hdO47v0 P) (.node (hdO79v0 P) .nil .nil) .nil)) (.node (hdO23v0 P) (.node (hdO39v0 P) (.node (hdO71v0 P) .nil .nil) (.node (hdO103v0 P) .nil .nil)) (.node (hdO55v0 P) (.node (hdO87v0 P) .nil .nil) .nil))) (.node (hdO11v0 P) (.node (hdO19v0 P) (.node (hdO35v0 P) (.node (hdO67v0 P) .nil .nil) (.node (hdO99v0 P) .nil .nil)) (.node (hdO51v0 P) (.node (hdO83v0 P) .nil .nil) .nil)) (.node (hdO27v0 P) (.node (hdO43v0 P) (.node (hdO75v0 P) .nil .nil) (.node (hdO107v0 P) .nil .nil)) (.node (hdO59v0 P) (.node (hdO91v0 P) .nil .nil) .nil)))) (.node (PySem.W.boot_o_5 P) (.node (PySem.W.boot_o_9 P) (.node (hdO17v1 P) (.node (hdO33v0 P) (.node (hdO65v0 P) .nil .nil) (.node (hdO97v0 P) .nil .nil)) (.node (hdO49v0 P) (.node (hdO81v0 P) .nil .nil) .nil)) (.node (hdO25v0 P) (.node (hdO41v0 P) (.node (hdO73v0 P) .nil .nil) (.node (hdO105v0 P) .nil .nil)) (.node (hdO57v0 P) (.node (hdO89v0 P) .nil .nil) .nil))) (.node (hdO13v0 P) (.node (hdO21v0 P) (.node (hdO37v0 P) (.node (hdO69v0 P) .nil .nil) (.node (hdO101v0 P) .nil .nil)) (.node (hdO53v0 P) (.node (hdO85v0 P) .nil .nil) .nil)) (.node (hdO29v0 P) (.node (hdO45v0 P) (.node (hdO77v0 P) .nil .nil) .nil) (.node (hdO61v0 P) (.node (hdO93v0 P) .nil .nil) .nil))))) (.node (PySem.W.boot_o_2 P) (.node (PySem.W.boot_o_4 P) (.node (PySem.W.boot_o_8 P) (.node (hdO16v1 P) (.node (hdO32v0 P) (.node (hdO64v0 P) .nil .nil) (.node (hdO96v0 P) .nil .nil)) (.node (hdO48v0 P) (.node (hdO80v0 P) .nil .nil) .nil)) (.node (hdO24v1 P) (.node (hdO40v0 P) (.node (hdO72v0 P) .nil .nil) (.node (hdO104v0 P) .nil .nil)) (.node (hdO56v0 P) (.node (hdO88v0 P) .nil .nil) .nil))) (.node (hdO12v2 P) (.node (hdO20v0 P) (.node (hdO36v0 P) (.node (hdO68v0 P) .nil .nil) (.node (hdO100v0 P) .nil .nil)) (.node (hdO52v0 P) (.node (hdO84v0 P) .nil .nil) .nil)) (.node (hdO28v1 P) (.node (hdO44v0 P) (.node (hdO76v0 P) .nil .nil) (.node (hdO108v0 P) .nil .nil)) (.node (hdO60v0 P) (.node (hdO92v0 P) .nil .nil) .nil)))) (.node (PySem.W.boot_o_6 P) (.node (PySem.W.boot_o_10 P) (.node (hdO18v1 P) (.node (hdO34v0 P) (.node (hdO66v0 P) .nil .nil) (.node (hdO98v0 P) .nil .nil)) (.node (hdO50v0 P) (.node (hdO82v0 P) .nil .nil) .nil)) (.node (hdO26v0 P) (.node (hdO42v0 P) (.node (hdO74v0 P) .nil .nil) (.node (hdO106v0 P) .nil .nil)) (.node (hdO58v0 P) (.node (hdO90v0 P) .nil .nil) .nil))) (.node (hdO14v0 P) (.node (hdO22v2 P) (.node (hdO38v0 P) (.node (hdO70v0 P) .nil .nil) (.node (hdO102v0 P) .nil .nil)) (.node (hdO54v0 P) (.node (hdO86v0 P) .nil .nil) .nil)) (.node (hdO30v0 P) (.node (hdO46v1 P) (.node (hdO78v0 P) .nil .nil) .nil) (.node (hdO62v0 P) (.node (hdO94v0 P) .nil .nil) .nil))))))
noncomputable def hdS8 (w : World) (os : OsState) : SharedT := ⟨hdS8t w.params, 109, {}, #[], ⟨0, 0, 0, 0⟩, 1857, os⟩
theorem hdP8 (w : World) (os : OsState) : (hdRun w 321 (hdS7 w os) (hdTh (hdSts 18 12) ⟨22, 9, 22, 16⟩)) = some (.next, hdS8 w os, hdC, ⟨170, 0, 184, 15⟩) := by kernel_rfl
theorem hdR8 (w : World) (os : OsState) : hdRunS w 321 (hdS7 w os).abs (piecesOf (hdSts 18 12) hdEnv hdC ⟨22, 9, 22, 16⟩ hdF) = some (.next, (hdS8 w os).abs, hdC, ⟨170, 0, 184, 15⟩) := hdOf (hdP8 w os)
noncomputable def hdSfh (P : Params) : Heap := ⟨List.toArray (PySem.W.boot_o_0 P :: PySem.W.boot_o_1 P :: PySem.W.boot_o_2 P :: hdO3v8 P :: PySem.W.boot_o_4 P :: PySem.W.boot_o_5 P :: PySem.W.boot_o_6 P :: PySem.W.boot_o_7 P :: PySem.W.boot_o_8 P :: PySem.W.boot_o_9 P :: PySem.W.boot_o_10 P :: hdO11v0 P :: hdO12v2 P :: hdO13v0 P :: hdO14v0 P :: hdO15v1 P :: hdO16v1 P :: hdO17v1 P :: hdO18v1 P :: hdO19v0 P :: hdO20v0 P :: hdO21v0 P :: hdO22v2 P :: hdO23v0 P :: hdO24v1 P :: hdO25v0 P :: hdO26v0 P :: hdO27v0 P :: hdO28v1 P :: hdO29v0 P :: hdO30v0 P :: hdO31v0 P :: hdO32v0 P :: hdO33v0 P :: hdO34v0 P :: hdO35v0 P :: hdO36v0 P :: hdO37v0 P :: hdO38v0 P :: hdO39v0 P :: hdO40v0 P :: hdO41v0 P :: hdO42v0 P :: hdO43v0 P :: hdO44v0 P :: hdO45v0 P :: hdO46v1 P :: hdO47v0 P :: hdO48v0 P :: hdO49v0 P :: hdO50v0 P :: hdO51v0 P :: hdO52v0 P :: hdO53v0 P :: hdO54v0 P :: hdO55v0 P :: hdO56v0 P :: hdO57v0 P :: hdO58v0 P :: hdO59v0 P :: hdO60v0 P :: hdO61v0 P :: hdO62v0 P :: hdO63v0 P :: hdO64v0 P :: hdO65v0 P :: hdO66v0 P :: hdO67v0 P :: hdO68v0 P :: hdO69v0 P :: hdO70v0 P :: hdO71v0 P :: hdO72v0 P :: hdO73v0 P :: hdO74v0 P :: hdO75v0 P :: hdO76v0 P :: hdO77v0 P :: hdO78v0 P :: hdO79v0 P :: hdO80v0 P :: hdO81v0 P :: hdO82v0 P :: hdO83v0 P :: hdO84v0 P :: hdO85v0 P :: hdO86v0 P :: hdO87v0 P :: hdO88v0 P :: hdO89v0 P :: hdO90v0 P :: hdO91v0 P :: hdO92v0 P :: hdO93v0 P :: hdO94v0 P :: hdO95v0 P :: hdO96v0 P :: hdO97v0 P :: hdO98v0 P :: hdO99v0 P :: hdO100v0 P :: hdO101v0 P :: hdO102v0 P :: hdO103v0 P :: hdO104v0 P :: hdO105v0 P :: hdO106v0 P :: hdO107v0 P :: hdO108v0 P :: []), {}⟩
noncomputable def hdSf (w : World) (os : OsState) : Shared := ⟨hdSfh w.params, #[], ⟨0, 0, 0, 0⟩, 1857, os⟩
theorem hdFin (w : World) (os : OsState) : topRun treeTable hdProg w 11 (some (.ref 6)) 2 (hdS8 w os).abs ⟨doneF .next, hdC, ⟨170, 0, 184, 15⟩, hdF⟩ = some (hdSf w os) := by kernel_rfl
theorem hdBody : hdB = hdSts 0 2 ++ (hdSts 2 1 ++ (hdSts 3 8 ++ (hdSts 11 1 ++ (hdSts 12 1 ++ (hdSts 13 1 ++ (hdSts 14 3 ++ (hdSts 17 1 ++ (hdSts 18 12 ++ [])))))))) := by kernel_rfl
theorem hdTop (w : World) (os : OsState) : topRun treeTable hdProg w 11 (some (.ref 6)) (12 + (1 + (19 + (9552 + (133 + (3077 + (25 + (4303 + (86 + (118 + (321 + 2))))))))))) ⟨boot_heap w.params, Array.mk [], boot_drawn, boot_toks, os⟩ (topStub hdProg) = some (hdSf w os) := by
  have k : topRun treeTable hdProg w 11 (some (.ref 6)) (19 + (9552 + (133 + (3077 + (25 + (4303 + (86 + (118 + (321 + 2))))))))) (hdS w os).abs (restOf (hdSts 0 2 ++ (hdSts 2 1 ++ (hdSts 3 8 ++ (hdSts 11 1 ++ (hdSts 12 1 ++ (hdSts 13 1 ++ (hdSts 14 3 ++ (hdSts 17 1 ++ (hdSts 18 12 ++ []))))))))) hdEnv hdC ⟨0, 0, 0, 0⟩ hdF) = some (hdSf w os) :=
    piece_app (hdR0 w os) (piece_app (hdR1 w os) (piece_app (hdR2 w os) (piece_app (hdR3 w os) (piece_app (hdR4 w os) (piece_app (hdR5 w os) (piece_app (hdR6 w os) (piece_app (hdR7 w os) (piece_app (hdR8 w os) (hdFin w os)))))))))
  have k2 : topRun treeTable hdProg w 11 (some (.ref 6)) (19 + (9552 + (133 + (3077 + (25 + (4303 + (86 + (118 + (321 + 2))))))))) (hdS w os).abs (restOf hdB hdEnv hdC ⟨0, 0, 0, 0⟩ hdF) = some (hdSf w os) :=
    (congrArg (fun l => topRun treeTable hdProg w 11 (some (.ref 6)) (19 + (9552 + (133 + (3077 + (25 + (4303 + (86 + (118 + (321 + 2))))))))) (hdS w os).abs (restOf l hdEnv hdC ⟨0, 0, 0, 0⟩ hdF)) hdBody).trans k
  exact go_top (hdPre w os) (piece_block (hdBlock w os) k2)
noncomputable def hdHook : Hook := kHook hdK hdAs (fun _ => by kernel_rfl)
noncomputable abbrev hdX (s : Shared) : Bool := xlAt hdView hdLv s && recOk (RowW.records (OpenRow.toRowW PySem.Challenge.rw_ny0161_02.row)) s
theorem hdOpen (w : World) : (fencedOpening treeTable hdProg w 35376).map (fun s => (s.heap, s.gens, s.drawn, s.toks)) = some (boot_heap w.params, Array.mk [], boot_drawn, boot_toks) := by kernel_rfl
theorem hdSize (w : World) : ((boot_heap w.params).isNs mainGlobals && (Array.mk [] : Array GenState).size == 0, (boot_heap w.params).objs.size, (boot_heap w.params).nsMap mainGlobals "__annotations__") = (true, 11, (some (.ref 6))) := by kernel_rfl
theorem hdLooks (w : World) : (fun os => ((staticsOk (importedModules hdProg.main.body) (boot_heap w.params) (hdSfh w.params) && namesBound hdProg (hdSfh w.params) && gensDone ⟨hdSfh w.params, #[], ⟨0, 0, 0, 0⟩, 1857, os⟩ && laidKept (boot_heap w.params) (hdSfh w.params)),
    openSeen hdView hdLoose (importedModules hdProg.main.body) hdX true ⟨hdSfh w.params, #[], ⟨0, 0, 0, 0⟩, 1857, os⟩, Hook.obs hdHook ⟨hdSfh w.params, #[], ⟨0, 0, 0, 0⟩, 1857, os⟩)) = fun _ => (true, openGood hdView hdLoose, Hook.val hdHook w) := by kernel_rfl
theorem hdLeft : LeftO hdProg hdView hdLoose hdX (Hook.obs hdHook) (Hook.val hdHook) 35376 :=
  LeftO.of_pieces hdOpen hdSize hdTop (by kernel_rfl) hdLooks
end Mine
-- text B1b
namespace Mine
open PySem.Calls PySem.Spec
/-- a mark at which the walker halts -/
noncomputable def Stop (P : Prop) : Prop := P
theorem Stop.out {P : Prop} (h : Stop P) : P := h
/-- what a body leaves behind: its own frame and its own objects, all that stood before is as it was -/
noncomputable def Back (g : Heap) (L' : Addr) (s₀ : Shared) (Post : Value → List (Addr × Obj) → Prop) (v : Value) (s' : Shared) : Prop :=
  ∃ nw m' h' tk', s' = { s₀ with heap := h', toks := tk' } ∧ Post v nw ∧ Fr g L' h' m' ∧ News g L' h' nw
noncomputable def Cl (prog : Program) (w : World) (K : Frag) (p : Program) (loose : List Str) (mean : ExcName → Option Value) (mg mb : Str → Option Value) (f : Addr) (lv : Nat) (pre : Heap → Prop) (vs : List Value) (Post : Value → List (Addr × Obj) → Prop) : Prop :=
  ∀ (dp un : Nat) (gd : Option (List Code)) (cn : Str) (cs : Scope) (a : Addr) (ccd : Value) (cl : List (Str × Addr)) (outer : List Env) (A₀ : Around) (base h₀ : Heap) (L : Addr) (m : Str → Option Value) (news : List (Addr × Obj)) (s : Shared) (Q E : Value → Shared → Prop),
    Below A₀ base outer h₀ → Fr h₀ L s.heap m → K.In h₀ → News h₀ L s.heap news → Top p loose mean mg mb h₀ → cs.kind = .function → pre s.heap → dp + lv + 1 < recursionLimit → un + 10 * lv + 10 < cLine →
    (∀ v nw h' tk', Post v nw → Fr h₀ L h' m → News h₀ L h' (nw ++ news) → (∀ p ∈ nw, s.heap.get? p.1 = none) → (∀ b o, s.heap.get? b = some o → h'.get? b = some o) → Q v { s with heap := h', toks := tk' }) →
    wpAny (model prog w) (ktrTop dp un gd cn cs L a ccd cl outer) (call (.ref f) vs) Q E s
section
variable {prog : Program} {w : World} {K : Frag} {p : Program} {loose : List Str} {mean : ExcName → Option Value} {mg mb : Str → Option Value} {f : Addr} {lv : Nat} {pre : Heap → Prop} {vs : List Value} {Post : Value → List (Addr × Obj) → Prop}
  {name qual : Str} {params : Arguments} {body : List Stmt} {scope : Scope} {dV kV doc pm cdv ct oc : Value} {an od : Option Addr} {osl : Array (Option Value)} {binds : List (Str × Value)}
theorem Cl.intro (ho : K.lookup f = some ⟨oc, od, .func (fnOf name qual params body scope dV kV doc pm an cdv ct), osl⟩) (hcd : codeIn K cdv qual = true)
    (hbind : ∀ s : Shared, K.In s.heap → BindsTo s (fnOf name qual params body scope dV kV doc pm an cdv ct) ⟨vs, []⟩ binds) (hloc : ∀ y ∈ binds, scope.names.lookup y.1 = some .local)
    (hco : scope.isCoroutine = false) (hgen : scope.isGenerator = false) (hk : scope.kind = .function) (hcell : ∀ x ∈ scope.names, x.2 ≠ .cell)
    (h : ∀ (dp un : Nat) (gd : Option (List Code)) (outer : List Env) (A₀ : Around) (base g : Heap) (L' : Addr) (s : Shared), Below A₀ base outer g → Fr g L' s.heap (fun y => binds.reverse.lookup y) → News g L' s.heap [] → K.In g → Top p loose mean mg mb g → pre g →
      dp + lv < recursionLimit → un + 10 * lv + 7 < cLine →
      wpAny (model prog w) (ktrTop dp un gd qual scope L' f cdv [] outer) (execs body (envOf qual scope L' f cdv))
        (fun fl s' => Back g L' s Post (match fl with | .ret v => v | _ => .none) s') (fun _ _ => False) s) :
    Cl prog w K p loose mean mg mb f lv pre vs Post := by
  intro dp un gd cn cs a ccd cl outer A₀ base h₀ L m news s Q E B F X N T hck hpre hdp hun hret
  refine wpAny_call ?_
  obtain ⟨FG, BG, st, lv⟩ := groundX (R := fun r s' => match r with | .ok (.ret v) => Q v s' | .ok _ => False | .error e => E e s') (A := ktrTop dp un gd cn cs L a ccd cl outer) B F (News.nil (h₀ := h₀) (L := L) (h := s.heap)) rfl rfl hck
  have Xs := X.keeps F.keep
  refine codeAny_call_def (fd := fnOf name qual params body scope dV kV doc pm an cdv ct) (body := body) (binds := binds) (by show dp < _; lia) (Xs _ _ ho) rfl (T.nolimit.keeps F.keep) (codeRec_of Xs hcd) rfl (hbind s Xs) hcell hloc (fun h₁ hns hk₁ => ?_) hco hgen hk
  refine wpAny_mono (h (dp + 1) (un + 3) gd (envX cn cs L a ccd cl :: outer) (ktrTop dp un gd cn cs L a ccd cl outer) base s.heap s.heap.objs.size { s with heap := h₁, toks := s.toks + binds.length } BG ⟨hns, hk₁, Nat.le_refl _⟩ News.nil Xs (T.keeps F.keep) hpre (by lia) (by lia)) (fun fl s' hb => ?_) fun _ _ x => x.elim
  obtain ⟨nw, m', h', tk', rfl, hP, F', N'⟩ := hb
  refine lv _ _ ⟨_, m', nw, F', N', fun kF kN => ?_⟩
  refine hret _ nw h' tk' hP kF (fun q hq => ?_) (fun q hq => (N' q hq).2.2) F'.keep
  rcases List.mem_append.mp hq with hq | hq
  · exact kN q hq
  · exact ⟨F'.keep _ _ (N q hq).1, (N q hq).2⟩
theorem Cl.use (C : Cl prog w K p loose mean mg mb f lv pre vs Post) {dp un : Nat} {gd : Option (List Code)} {cn : Str} {cs : Scope} {a : Addr} {ccd : Value} {cl : List (Str × Addr)} {outer : List Env} {A₀ : Around} {base h₀ : Heap} {L : Addr} {m : Str → Option Value} {news : List (Addr × Obj)} {s : Shared} {Q E : Value → Shared → Prop}
    (B : Below A₀ base outer h₀) (F : Fr h₀ L s.heap m) (X : K.In h₀) (N : News h₀ L s.heap news) (T : Top p loose mean mg mb h₀) (hk : cs.kind = .function) (hp : pre s.heap) (hd : dp + lv + 1 < recursionLimit) (hu : un + 10 * lv + 10 < cLine)
    (ret : ∀ v nw h' tk', Post v nw → Fr h₀ L h' m → News h₀ L h' (nw ++ news) → (∀ p ∈ nw, s.heap.get? p.1 = none) → (∀ b o, s.heap.get? b = some o → h'.get? b = some o) → Q v { s with heap := h', toks := tk' }) :
    wpAny (model prog w) (ktrTop dp un gd cn cs L a ccd cl outer) (call (.ref f) vs) Q E s :=
  C dp un gd cn cs a ccd cl outer A₀ base h₀ L m news s Q E B F X N T hk hp hd hu ret
end
end Mine
-- text H1b
namespace Mine
open PySem.Calls PySem.Spec
noncomputable def hexv (c : Nat) : Nat := if c ≤ 57 then c - 48 else if 97 ≤ c then c - 87 else c - 55
noncomputable def isHex (c : Nat) : Bool := (48 ≤ c && c ≤ 57) || (97 ≤ c && c ≤ 102) || (65 ≤ c && c ≤ 70)
noncomputable def isVal (x : int_private% "Numeral") (n : Int) : Bool := by
  cases x with
  | value i => exact decide (i = n)
  | _ => exact false
theorem isVal_eq {x : int_private% "Numeral"} {n : Int} (h : isVal x n = true) : x = (int_private% "Numeral.value") n := by
  cases x with
  | value i => have : i = n := of_decide_eq_true h; rw [this]
  | _ => cases h
noncomputable def hexList : List Nat := [48, 49, 50, 51, 52, 53, 54, 55, 56, 57, 97, 98, 99, 100, 101, 102, 65, 66, 67, 68, 69, 70]
theorem hex_mem {c : Nat} (h : isHex c = true) : c ∈ hexList := by
  have h1 : c < 103 := by simp only [isHex, Bool.or_eq_true, Bool.and_eq_true, decide_eq_true_eq] at h; lia
  exact (by decide : ∀ c, c < 103 → isHex c = true → c ∈ hexList) c h1 h
theorem read16' : ∀ a ∈ hexList, ∀ b ∈ hexList, isVal ((int_private% "readNumeral") 0 16 [a, b]) ((16 * hexv a + hexv b : Nat) : Int) = true := by decide +kernel
theorem read16 {a b : Nat} (ha : isHex a = true) (hb : isHex b = true) : (int_private% "readNumeral") 0 16 [a, b] = (int_private% "Numeral.value") ((16 * hexv a + hexv b : Nat) : Int) := isVal_eq (read16' a (hex_mem ha) b (hex_mem hb))
theorem wp_text16 {M : Model} {A : Around} {E : Value → Shared → Prop} {s : Shared} {Q : Value → Shared → Prop} {v : Value} {text : List Nat} {n : Int} {base : Nat} (hb : base = 16)
    (hs : (text.takeWhile (· != 0)).length ≤ 640) (hr : (int_private% "readNumeral") 0 16 (text.takeWhile (· != 0)) = (int_private% "Numeral.value") n)
    (ha : ((text.takeWhile (· != 0)).length == text.length) = true) (h : Q (.int n s.toks) { s with toks := s.toks + 1 }) :
    wpAny M A ((int_private% "intFromText") v text base) Q E s := by
  subst hb
  obtain ⟨hp, g, d, tk, os⟩ := s
  repeat (any_goals (first
    | assumption
    | (with_reducible refine wpAny_ite_true (decide_eq_true hs) ?_)
    | (with_reducible refine wpAny_ite_true (decide_eq_true ha) ?_)
    | wp_step))
  all_goals (try rw [hr])
  all_goals (try dsimp only)
  repeat (any_goals (first
    | assumption
    | (with_reducible refine wpAny_ite_true (decide_eq_true hs) ?_)
    | (with_reducible refine wpAny_ite_true (decide_eq_true ha) ?_)
    | wp_step))
theorem hex_ne0 {a : Nat} (h : isHex a = true) : (a != 0) = true ∧ a < 128 := by
  simp only [isHex, Bool.or_eq_true, Bool.and_eq_true, decide_eq_true_eq] at h
  constructor
  · simp only [bne_iff_ne, ne_eq]; lia
  · lia
set_option maxHeartbeats 4000000 in
theorem gives16 {a b : Nat} {u t : Tok} (ha : isHex a = true) (hb : isHex b = true) : Gives (Builtin.«int.__new__» ⟨[.type "int", .str ⟨#[a, b]⟩ u, .int 16 t], []⟩) (.int ((16 * hexv a + hexv b : Nat) : Int)) :=
  .of_wp fun M A E s Q h => by
    obtain ⟨hp, g, d, tk, os⟩ := s
    have f1 := F.conv_sub_int
    have f2 := F.madeHere_int
    have h1 := hex_ne0 ha
    have h2 := hex_ne0 hb
    have e1 : [a, b].takeWhile (· != 0) = [a, b] := by simp only [List.takeWhile, h1.1, h2.1]
    have e2 : (#[a, b] : Array Nat).all (· < 128) = true := by simp [h1.2, h2.2]
    have hr := read16 ha hb
    have e3 : (if ((⟨#[a, b]⟩ : Str).cps.all fun x => decide (x < 128)) = true then (⟨#[a, b]⟩ : Str).cps.toList else Unicode.numberText (⟨#[a, b]⟩ : Str).cps.toList) = [a, b] := if_pos e2
    have hk := KIN.Hid.mk (And.intro e1 (And.intro hr e3))
    clear e1 e2 hr e3
    repeat (any_goals (first
      | assumption
      | ((with_reducible show wpAny _ _ ((int_private% "intFromText") _ _ _) _ _ _); refine Stop.out ?_)
      | wp_step))
    unfold Stop
    rw [hk.out.2.2]
    refine wp_text16 (n := ((16 * hexv a + hexv b : Nat) : Int)) rfl (by rw [hk.out.1]; exact Nat.le_of_ble_eq_true rfl) (by rw [hk.out.1]; exact hk.out.2.1) (by rw [hk.out.1]; rfl) ?_
    repeat (any_goals (first
      | assumption
      | wp_step))
    exact ⟨_, rfl, h⟩
namespace FF
theorem typeCall_int_2 (a b : Value) : checkTypeCall "int" ⟨[a, b], []⟩ = pure () := by kernel_rfl
theorem newCall_int_2 (a b : Value) : checkBuiltinCall "int.__new__" ⟨[.type "int", a, b], []⟩ = pure () := by kernel_rfl
theorem args_object_init_3 (a b c : Value) : argsOk "object.__init__" ⟨[a, b, c], []⟩ := by unfold argsOk; kernel_rfl
end FF
section
variable {prog : Program} {w : World} {A : Around} {E : Value → Shared → Prop} {s : Shared}
theorem call_hex {a b : Nat} {u t : Tok} {Q : Value → Shared → Prop} (ha : isHex a = true) (hb : isHex b = true) (h : Q (.int ((16 * hexv a + hexv b : Nat) : Int) s.toks) { s with toks := s.toks + 1 }) :
    wpAny (model prog w) A (call (.type "int") [.str ⟨#[a, b]⟩ u, .int 16 t]) Q E s :=
  callType_new F.called_int F.newNe_int (FF.typeCall_int_2 _ _) (FF.newCall_int_2 _ _) (fun obj => FF.args_object_init_3 obj _ _) F.entry_int_new (gives16 ha hb).meets (show (Made.int _).post _ s from ⟨rfl, h⟩)
end
end Mine
-- text B2b
namespace Mine
open PySem.Calls PySem.Spec
section
variable {prog : Program} {w : World} {A : Around} {E : Value → Shared → Prop} {s : Shared} {env : Env} {h₀ : Heap} {x : Str} {body : List Stmt} {Q : Flow → Shared → Prop}
/-- a turn's end: the next state, what the loop holds, the frame's other names -/
noncomputable def TurnEnd {σ : Type} (h₀ : Heap) (L : Addr) (s : Shared) (Led : σ → List (Addr × Obj)) (ps : σ → List (Str × Value)) (x : Str) (stored : List Str) (m₀ : Str → Option Value) (P : σ → Prop) (own : List (Addr × Obj)) (s₂ : Shared) : Prop :=
  ∃ (c' : σ) (h' : Heap) (tk : Nat) (m' : Str → Option Value) (news' : List (Addr × Obj)), s₂ = { s with heap := h', toks := tk } ∧ Fr h₀ L h' m' ∧ News h₀ L h' news' ∧ (∀ p ∈ Led c', p ∈ news') ∧ (∀ p ∈ own, p ∈ news') ∧ OwnOff own ((Led c').map (·.1)) ∧
    (∀ p ∈ ps c', m' p.1 = some p.2) ∧ (∀ z, z ≠ x → (∀ p ∈ ps c', z ≠ p.1) → stored.contains z = false → m' z = m₀ z) ∧ P c'
noncomputable def Turn {σ : Type} (h₀ : Heap) (L : Addr) (s : Shared) (Led : σ → List (Addr × Obj)) (ps : σ → List (Str × Value)) (x : Str) (stored : List Str) (m₀ : Str → Option Value) (P : σ → Prop) (own : List (Addr × Obj)) (Q : Flow → Shared → Prop) (f : Flow) (s₂ : Shared) : Prop :=
  match f with
  | .ret v => Q (.ret v) s₂
  | .brk => Q .next s₂
  | _ => TurnEnd h₀ L s Led ps x stored m₀ P own s₂
theorem post_var {M : Model} {A : Around} {α : Type} {t : Sem α} {Q : α → Shared → Prop} {E : Value → Shared → Prop} {s : Shared} (h : ∀ TT : α → Shared → Prop, Q = TT → wpAny M A t TT E s) : wpAny M A t Q E s := h _ rfl
theorem fr_gen {P : (Str → Option Value) → Prop} {m : Str → Option Value} (F : P m) : ∃ mT, mT = m ∧ P mT := ⟨m, rfl, F⟩
theorem off_stored {l : List Str} {z n : Str} (h : l.contains z = false) (hm : l.contains n = true) : ¬ z = n := fun q => by rw [q, hm] at h; cases h
theorem off_sub {l l2 : List Str} {z : Str} (h : l.contains z = false) (hs : ∀ x ∈ l2, l.contains x = true) : ¬ l2.contains z = true := fun q => by rw [hs z (List.contains_iff_mem.mp q)] at h; cases h
theorem turn_next {σ : Type} {L : Addr} {Led : σ → List (Addr × Obj)} {ps : σ → List (Str × Value)} {stored : List Str} {m₀ m' : Str → Option Value} {P : σ → Prop} {own news' : List (Addr × Obj)} {h' : Heap} {tk : Nat} (c' : σ)
    (F : Fr h₀ L h' m') (N : News h₀ L h' news') (hn : ∀ p ∈ Led c', p ∈ news') (ho : ∀ p ∈ own, p ∈ news') (ha : OwnOff own ((Led c').map (·.1))) (hk : ∀ p ∈ ps c', m' p.1 = some p.2) (hr : ∀ z, z ≠ x → (∀ p ∈ ps c', z ≠ p.1) → stored.contains z = false → m' z = m₀ z) (hp : P c') :
    Turn h₀ L s Led ps x stored m₀ P own Q .next { s with heap := h', toks := tk } := ⟨c', h', tk, m', news', rfl, F, N, hn, ho, ha, hk, hr, hp⟩
theorem turn_cont {σ : Type} {L : Addr} {Led : σ → List (Addr × Obj)} {ps : σ → List (Str × Value)} {stored : List Str} {m₀ m' : Str → Option Value} {P : σ → Prop} {own news' : List (Addr × Obj)} {h' : Heap} {tk : Nat} (c' : σ)
    (F : Fr h₀ L h' m') (N : News h₀ L h' news') (hn : ∀ p ∈ Led c', p ∈ news') (ho : ∀ p ∈ own, p ∈ news') (ha : OwnOff own ((Led c').map (·.1))) (hk : ∀ p ∈ ps c', m' p.1 = some p.2) (hr : ∀ z, z ≠ x → (∀ p ∈ ps c', z ≠ p.1) → stored.contains z = false → m' z = m₀ z) (hp : P c') :
    Turn h₀ L s Led ps x stored m₀ P own Q .cont { s with heap := h', toks := tk } := ⟨c', h', tk, m', news', rfl, F, N, hn, ho, ha, hk, hr, hp⟩
theorem for_led {σ : Type} {l : Addr} {vs : List Value} {nn : Nat} {m₀ : Str → Option Value} (Led : σ → List (Addr × Obj)) (ps : σ → List (Str × Value)) (stored : List Str) (P : Nat → σ → Prop) (c₀ : σ)
    (hh : A.handled = none) (hl : ∀ c, (l, listOf vs.toArray nn) ∈ Led c) (F : Fr h₀ env.locals s.heap m₀) (N : News h₀ env.locals s.heap (Led c₀)) (hk : ∀ p ∈ ps c₀, m₀ p.1 = some p.2) (hp : P 0 c₀)
    (turn : ∀ i v (c : σ) (u : Str → Option Value) h tk own, vs[i]? = some v → OwnOff own ((Led c).map (·.1)) → P i c →
      Fr h₀ env.locals h (fun y => if y = x then some v else kstB (fun z => if stored.contains z then u z else m₀ z) (ps c) y) → News h₀ env.locals h (Led c ++ own) →
      wpAny (model prog w) A (execs body env) (Turn h₀ env.locals s Led ps x stored m₀ (P (i + 1)) own Q) E { s with heap := h, toks := tk })
    (done : ∀ (c : σ) (u : Str → Option Value) h tk, P vs.length c → Fr h₀ env.locals h (fun y => if y = x then u y else kstB (fun z => if stored.contains z then u z else m₀ z) (ps c) y) → News h₀ env.locals h (Led c) → Q .next { s with heap := h, toks := tk }) :
    wpAny (model prog w) A (pyIter (.ref l)) (fun it s₂ => LoopAtV prog w A h₀ env x body Q E it s₂) E s := by
  refine kdl_iter (fun i m nx => ∃ c : σ, nx = Led c ∧ (∀ p ∈ ps c, m p.1 = some p.2) ∧ (∀ z, z ≠ x → (∀ p ∈ ps c, z ≠ p.1) → stored.contains z = false → m z = m₀ z) ∧ P i c) hh (hl c₀) F N ⟨c₀, rfl, hk, fun _ _ _ _ => rfl, hp⟩ ?_ ?_
  · rintro i v m₁ nx h tk own hv hoff hm ⟨c, rfl, h1, h2, hp'⟩ F₁ N₁
    refine wpAny_mono (turn i v c m₁ h tk own hv hoff hp' (kst_fr h1 h2 F₁) N₁) (fun f s₂ q => ?_) fun _ _ e => e
    have fin : TurnEnd h₀ env.locals s Led ps x stored m₀ (P (i + 1)) own s₂ → InvEndG h₀ env.locals (fun m' nx => (l, listOf vs.toArray nn) ∈ nx ∧ ∃ c : σ, nx = Led c ∧ (∀ p ∈ ps c, m' p.1 = some p.2) ∧ (∀ z, z ≠ x → (∀ p ∈ ps c, z ≠ p.1) → stored.contains z = false → m' z = m₀ z) ∧ P (i + 1) c) own { s with heap := h, toks := tk } s₂ := by
      rintro ⟨c', h', tk', m', news', e, F', N', hn, ho, ha, h1', h2', hp''⟩
      exact ⟨h', tk', m', news', Led c', e, F', N', hn, ho, ha, hl c', c', rfl, h1', h2', hp''⟩
    cases f with
    | ret v => exact q
    | brk => exact q
    | next => exact fin q
    | cont => exact fin q
  · rintro m₁ nx h tk ⟨c, rfl, h1, h2, hp'⟩ F₁ N₁
    exact done c m₁ h tk hp' (kst_frOut h1 h2 F₁) N₁
theorem iter_base {l : Addr} {vs : List Value} {m₀ : Str → Option Value} {news : List (Addr × Obj)} (J : Nat → (Str → Option Value) → List (Addr × Obj) → Prop)
    (hh : A.handled = none) (hl : h₀.IsList l vs.toArray) (F : Fr h₀ env.locals s.heap m₀) (N : News h₀ env.locals s.heap news) (hj : J 0 m₀ news)
    (turn : ∀ i v m₁ news₁ h tk own, vs[i]? = some v → OwnOff own (news₁.map (·.1)) → J i m₁ news₁ → Fr h₀ env.locals h (fun y => if y = x then some v else m₁ y) → News h₀ env.locals h (news₁ ++ own) →
      wpAny (model prog w) A (execs body env) (InvPostG h₀ env.locals (J (i + 1)) own { s with heap := h, toks := tk } Q) E { s with heap := h, toks := tk })
    (done : ∀ m₁ news₁ h tk, J vs.length m₁ news₁ → Fr h₀ env.locals h m₁ → News h₀ env.locals h news₁ → Q .next { s with heap := h, toks := tk }) :
    wpAny (model prog w) A (pyIter (.ref l)) (fun it s₂ => LoopAtV prog w A h₀ env x body Q E it s₂) E s := by
  have hls : s.heap.IsList l vs.toArray := hl.at fun o e => F.keep l o e
  obtain ⟨ol, hol, _⟩ := id hl
  have hlt : l < h₀.objs.size := Heap.lt_size hol
  have hne : l ≠ s.heap.objs.size := Nat.ne_of_lt (Nat.lt_trans (Nat.lt_of_lt_of_le hlt F.above) F.ns.lt)
  refine wpAny_pyIter_list hls ?_
  have W := Walks.list (prog := prog) (w := w) hh s.heap.objs.size l hne vs.toArray
  have hlen : vs.toArray.size = vs.length := by simp
  rw [hlen] at W
  refine ⟨_, _, _, vs.length, _, _, m₀, news, J, rfl, W, ?_, ?_, ?_, ⟨⟨_, Heap.get?_push_size _ rfl, rfl, rfl⟩, hls.at fun o e => Heap.get?_push_of_some _ e⟩, F.push _, (fun p hp => ⟨Heap.get?_push_of_some _ (N p hp).1, (N p hp).2⟩), hj, ?_, ?_⟩
  · intro hm
    rcases List.mem_cons.mp hm with e | hm
    · exact absurd F.ns.lt (e ▸ Nat.lt_irrefl _)
    · exact absurd (Nat.lt_of_lt_of_le hlt F.above) ((List.mem_singleton.mp hm) ▸ Nat.lt_irrefl _)
  · intro b hb
    rw [List.mem_singleton.mp hb]
    exact next_is_new F
  · intro p hp hI
    exact absurd (Heap.lt_size (N p hp).1) ((List.mem_singleton.mp hI) ▸ Nat.lt_irrefl _)
  · rintro i v m₁ news₁ s₁ own ⟨hh', tk', rfl⟩ hin hP hJ hoff hown hget hfp hst F₁ N₁
    have hP' : vs[i]? = some v := by simpa using hP
    have hsep : OwnOff own (news₁.map (·.1)) := by
      intro p hp b hb e
      obtain ⟨q, hq, rfl⟩ := List.mem_map.mp hb
      rcases List.mem_cons.mp (hown p hp) with h1 | h1
      · exact hoff q hq (List.mem_singleton.mpr (e ▸ h1))
      · have h2 := List.mem_singleton.mp h1
        have h3 := (N₁ q (List.mem_append.mpr (.inr hq))).2.2
        rw [← e, h2, hol] at h3
        cases h3
    have hI0 : h₀.get? s.heap.objs.size = none := next_is_new F
    obtain ⟨⟨oI, hoI, _⟩, _⟩ := id hst
    have hIown := hfp _ (List.mem_cons.mpr (.inl rfl)) hI0 _ hoI
    have N₂ : News h₀ env.locals hh' (news₁ ++ own) := fun p hp => N₁ p ((List.mem_append.mp hp).elim (fun h => List.mem_append.mpr (.inr h)) fun h => List.mem_append.mpr (.inl h))
    refine wpAny_mono (turn i v m₁ news₁ hh' tk' own hP' hsep hJ F₁ N₂) (fun f s₂ p => ?_) fun _ _ e => e
    have fin : InvEndG h₀ env.locals (J (i + 1)) own { s with heap := hh', toks := tk' } s₂ → LoopStepU h₀ env.locals [s.heap.objs.size] own (J (i + 1)) { s with heap := hh', toks := tk' } .next s₂ := by
      rintro ⟨h', tk, m', news', nx, e, F', N', hn, ho, ha, hm⟩
      refine ⟨rfl, h', tk, m', nx, e, F', fun p hp => N' p ((List.mem_append.mp hp).elim (ho p) (hn p)), fun p hp hq => ?_, hm⟩
      exact ha _ hIown p.1 (List.mem_map.mpr ⟨p, hp, rfl⟩) (List.mem_singleton.mp hq).symm
    cases f with
    | ret v => exact .ret p
    | brk => exact .brk p
    | next => exact .next (fin p)
    | cont => exact .cont (fin p)
  · rintro h' tk m' news' F' N' _ hJ
    exact done m' news' h' tk hJ F' N'
theorem for_base {σ : Type} {l : Addr} {vs : List Value} {m₀ : Str → Option Value} (Led : σ → List (Addr × Obj)) (ps : σ → List (Str × Value)) (stored : List Str) (P : Nat → σ → Prop) (c₀ : σ)
    (hh : A.handled = none) (hl : h₀.IsList l vs.toArray) (F : Fr h₀ env.locals s.heap m₀) (N : News h₀ env.locals s.heap (Led c₀)) (hk : ∀ p ∈ ps c₀, m₀ p.1 = some p.2) (hp : P 0 c₀)
    (turn : ∀ i v (c : σ) (u : Str → Option Value) h tk own, vs[i]? = some v → OwnOff own ((Led c).map (·.1)) → P i c →
      Fr h₀ env.locals h (fun y => if y = x then some v else kstB (fun z => if stored.contains z then u z else m₀ z) (ps c) y) → News h₀ env.locals h (Led c ++ own) →
      wpAny (model prog w) A (execs body env) (Turn h₀ env.locals s Led ps x stored m₀ (P (i + 1)) own Q) E { s with heap := h, toks := tk })
    (done : ∀ (c : σ) (u : Str → Option Value) h tk, P vs.length c → Fr h₀ env.locals h (fun y => if y = x then u y else kstB (fun z => if stored.contains z then u z else m₀ z) (ps c) y) → News h₀ env.locals h (Led c) → Q .next { s with heap := h, toks := tk }) :
    wpAny (model prog w) A (pyIter (.ref l)) (fun it s₂ => LoopAtV prog w A h₀ env x body Q E it s₂) E s := by
  refine iter_base (fun i m nx => ∃ c : σ, nx = Led c ∧ (∀ p ∈ ps c, m p.1 = some p.2) ∧ (∀ z, z ≠ x → (∀ p ∈ ps c, z ≠ p.1) → stored.contains z = false → m z = m₀ z) ∧ P i c) hh hl F N ⟨c₀, rfl, hk, fun _ _ _ _ => rfl, hp⟩ ?_ ?_
  · rintro i v m₁ nx h tk own hv hoff ⟨c, rfl, h1, h2, hp'⟩ F₁ N₁
    refine wpAny_mono (turn i v c m₁ h tk own hv hoff hp' (kst_fr h1 h2 F₁) N₁) (fun f s₂ q => ?_) fun _ _ e => e
    have fin : TurnEnd h₀ env.locals s Led ps x stored m₀ (P (i + 1)) own s₂ → InvEndG h₀ env.locals (fun m' nx => ∃ c : σ, nx = Led c ∧ (∀ p ∈ ps c, m' p.1 = some p.2) ∧ (∀ z, z ≠ x → (∀ p ∈ ps c, z ≠ p.1) → stored.contains z = false → m' z = m₀ z) ∧ P (i + 1) c) own { s with heap := h, toks := tk } s₂ := by
      rintro ⟨c', h', tk', m', news', e, F', N', hn, ho, ha, h1', h2', hp''⟩
      exact ⟨h', tk', m', news', Led c', e, F', N', hn, ho, ha, c', rfl, h1', h2', hp''⟩
    cases f with
    | ret v => exact q
    | brk => exact q
    | next => exact fin q
    | cont => exact fin q
  · rintro m₁ nx h tk ⟨c, rfl, h1, h2, hp'⟩ F₁ N₁
    exact done c m₁ h tk hp' (kst_frOut h1 h2 F₁) N₁
end
theorem strs_at {l : List (Str × Tok)} {i : Nat} {v : Value} (h : (strValues l)[i]? = some v) : ∃ a ta, v = Value.str a ta ∧ (l.map (·.1))[i]? = some a := by
  have e : strValues l = l.map fun p => Value.str p.1 p.2 := rfl
  rw [e, List.getElem?_map] at h
  cases hq : l[i]? with
  | none => rw [hq] at h; cases h
  | some q =>
    rw [hq] at h
    exact ⟨q.1, q.2, (Option.some.inj h).symm, by rw [List.getElem?_map, hq]; rfl⟩
theorem push_strs (ps : List (Str × Tok)) (a : Str) (t : Tok) : (strValues ps).toArray.push (Value.str a t) = (strValues (ps ++ [(a, t)])).toArray := by simp [strValues]
end Mine
-- text T1b
namespace Mine
open PySem.Builtin PySem.Builtin.Str
abbrev ch (x : PySem.Str) : List Nat := x.cps.toList
theorem ch_len (x : PySem.Str) : (ch x).length = x.length := by simp [ch, PySem.Str.length]
theorem ext_ch {x y : PySem.Str} (h : ch x = ch y) : x = y := PySem.Str.ext' (Array.toList_inj.mp h)
theorem ch_app (x y : PySem.Str) : ch (x ++ y) = ch x ++ ch y := by simp [ch, PySem.Str.cps_append]
theorem ch_one (c : Nat) : ch ⟨#[c]⟩ = [c] := rfl
theorem item_ch {x : PySem.Str} {i : Int} (h0 : 0 ≤ i) (h1 : i < x.length) : Txt.item x i = ⟨#[(ch x).getD i.toNat 0]⟩ := by
  unfold Txt.item Txt.charAt seqIndex?
  have h2 : ¬ i < 0 := by lia
  have h3 : i.toNat < x.cps.size := by have := ch_len x; simp only [PySem.Str.length] at h1; lia
  simp [h2, h0, h1, h3, ch]
theorem item_last {x : PySem.Str} (h : x.length ≠ 0) : Txt.item x (-1) = ⟨#[(ch x).getD (x.length - 1) 0]⟩ := by
  unfold Txt.item Txt.charAt seqIndex?
  have h1 : (-1 : Int) < 0 := by decide
  have h2 : (0 : Int) ≤ -1 + (x.length : Int) := by lia
  have h3 : (-1 : Int) + (x.length : Int) < x.length := by lia
  have h4 : ((-1 : Int) + (x.length : Int)).toNat = x.length - 1 := by lia
  have h5 : x.length - 1 < x.cps.size := by simp only [PySem.Str.length] at h ⊢; lia
  simp only [h1, if_true, h2, h3, decide_true, Bool.and_self, h4]
  simp [h5, ch]
noncomputable def clipN (d : Nat) (v : Option Int) (n : Nat) : Nat := match v with
  | none => d
  | some i => (max 0 (min (if i < 0 then i + n else i) (n : Int))).toNat
theorem slice_gen (x : PySem.Str) (l u : Option Int) : ch (Txt.slice x l u) = ((ch x).drop (clipN 0 l x.length)).take (clipN x.length u x.length - clipN 0 l x.length) := by
  have e : strSliceIndices l u 1 x.length = strSliceIndices (some (clipN 0 l x.length : Int)) (some (clipN x.length u x.length : Int)) 1 x.length := by
    unfold strSliceIndices clipN
    simp only [show ((1 : Int) > 0) = True from by simp, if_true]
    cases l <;> cases u <;> simp only [] <;> congr 1 <;> lia
  have hl : clipN 0 l x.length ≤ x.length := by unfold clipN; cases l <;> simp only [] <;> lia
  have hu : clipN x.length u x.length ≤ x.length := by unfold clipN; cases u <;> simp only [] <;> lia
  have key : (strSliceIndices l u 1 x.length).filterMap (x.cps[·]?) = ((ch x).drop (clipN 0 l x.length)).take (clipN x.length u x.length - clipN 0 l x.length) ∧ (strSliceIndices l u 1 x.length).length = clipN x.length u x.length - clipN 0 l x.length := by
    rw [e]
    generalize clipN 0 l x.length = a at hl ⊢
    generalize clipN x.length u x.length = b at hu ⊢
    by_cases hab : a ≤ b
    · exact ⟨StrLaws.sliced_plain x hab hu, by rw [StrLaws.strSliceIndices_plain hab hu]; simp⟩
    · have : b - a = 0 := by lia
      rw [this]
      have h1 : ¬ ((a : Int) < 0) := by lia
      have h2 : ¬ ((b : Int) < 0) := by lia
      have e1 : max (0 : Int) (min (a : Int) (x.length : Int)) = a := by lia
      have e2 : max (0 : Int) (min (b : Int) (x.length : Int)) = b := by lia
      have h3 : ¬ ((a : Int) < b) := by lia
      simp only [strSliceIndices, sliceRange, h1, h2, if_false, e1, e2, show ((1 : Int) > 0) = True from by simp, if_true, h3]
      simp
  unfold Txt.slice
  split
  · rename_i h
    simp only [Bool.and_eq_true, beq_iff_eq] at h
    rw [key.2] at h
    have h1 : clipN 0 l x.length = 0 := by lia
    have h2 : clipN x.length u x.length = x.length := by lia
    rw [h1, h2, List.drop_zero, List.take_of_length_le]
    rw [ch_len]; lia
  · show ((strSliceIndices l u 1 x.length).filterMap (x.cps[·]?)).toArray.toList = _
    rw [List.toList_toArray]; exact key.1
theorem rstrip_ch (x : PySem.Str) : ch (Txt.rstrip x) = ((ch x).reverse.dropWhile Unicode.isSpace).reverse := by
  unfold Txt.rstrip
  rw [PyProof.Rows.stripBy_eq]
  unfold stripLo stripHi
  simp only [Bool.false_eq_true, if_false, if_true, List.drop_zero]
  show ch (strSub x 0 _) = _
  rw [show ch (strSub x 0 (x.length - ((ch x).reverse.takeWhile Unicode.isSpace).length)) = ((ch x).drop 0).take (x.length - ((ch x).reverse.takeWhile Unicode.isSpace).length - 0) from StrLaws.strSub_toList _ _ _]
  rw [List.drop_zero, Nat.sub_zero]
  have h1 : (ch x).reverse.takeWhile Unicode.isSpace ++ (ch x).reverse.dropWhile Unicode.isSpace = (ch x).reverse := List.takeWhile_append_dropWhile
  have h2 : ch x = ((ch x).reverse.dropWhile Unicode.isSpace).reverse ++ ((ch x).reverse.takeWhile Unicode.isSpace).reverse := by
    rw [← List.reverse_append, h1, List.reverse_reverse]
  have h3 : x.length - ((ch x).reverse.takeWhile Unicode.isSpace).length = (((ch x).reverse.dropWhile Unicode.isSpace).reverse).length := by
    have := congrArg List.length h2
    rw [ch_len, List.length_append] at this
    rw [this, List.length_reverse, List.length_reverse]; lia
  rw [h3]
  generalize ((ch x).reverse.dropWhile Unicode.isSpace).reverse = a at h2 ⊢
  generalize ((ch x).reverse.takeWhile Unicode.isSpace).reverse = b at h2 ⊢
  rw [h2, List.take_left]
theorem contains_one (x : PySem.Str) (c : Nat) : (occurrences x ⟨#[c]⟩ 0 x.length 1).isEmpty = !decide (c ∈ ch x) := by
  have := StrLaws.found_one x c
  rw [← this, Bool.not_not]
theorem ends_ch (x y : PySem.Str) : Txt.endswith x y = (ch y).isSuffixOf (ch x) := by
  unfold Txt.endswith
  rw [StrLaws.subAt_eq]
  rw [Bool.eq_iff_iff]
  simp only [Bool.and_eq_true, decide_eq_true_eq, beq_iff_eq, List.isSuffixOf_iff_suffix]
  have hx := ch_len x
  have hy := ch_len y
  constructor
  · rintro ⟨h1, h2⟩
    have : ((ch x).drop (x.length - y.length)).length = y.length := by rw [List.length_drop]; lia
    rw [List.take_of_length_le (Nat.le_of_eq this)] at h2
    exact ⟨(ch x).take (x.length - y.length), by show _ ++ y.cps.toList = _; rw [← h2]; exact List.take_append_drop _ _⟩
  · rintro ⟨t, ht⟩
    have hl := congrArg List.length ht
    rw [List.length_append] at hl
    refine ⟨by lia, ?_⟩
    have e : x.length - y.length = t.length := by lia
    rw [e]
    show ((ch x).drop t.length).take y.length = ch y
    rw [← ht, List.drop_left, ← hy, List.take_length]
end Mine
-- text Q1b
namespace Mine
open PySem.Calls PySem.Spec
set_option maxRecDepth 100000
set_option maxHeartbeats 8000000
section
variable {w : World} {p : Program} {loose : List Str} {mean : ExcName → Option Value} {mg mb : Str → Option Value}
theorem slice13 {c a b : Nat} : Txt.slice ⟨#[c, a, b]⟩ (some 1) (some 3) = ⟨#[a, b]⟩ := rfl
theorem call_hexS {prog : Program} {w : World} {A : Around} {E : Value → Shared → Prop} {s : Shared} {a b c : Nat} {u t : Tok} {Q : Value → Shared → Prop} (ha : isHex a = true) (hb : isHex b = true) (h : Q (.int ((16 * hexv a + hexv b : Nat) : Int) s.toks) { s with toks := s.toks + 1 }) :
    wpAny (model prog w) A (call (.type "int") [.str (Txt.slice ⟨#[c, a, b]⟩ (some 1) (some 3)) u, .int 16 t]) Q E s := by
  rw [slice13]; exact call_hex ha hb h
theorem hexv_lt {a : Nat} (h : isHex a = true) : hexv a < 16 := by
  simp only [isHex, Bool.or_eq_true, Bool.and_eq_true, decide_eq_true_eq] at h
  unfold hexv; split <;> (try split) <;> lia
theorem call_chrN {prog : Program} {w : World} {A : Around} {E : Value → Shared → Prop} {s : Shared} {n : Nat} {t : Tok} {Q : Value → Shared → Prop} (h1 : n ≤ 1114111) (h : Q (.str ⟨#[n]⟩ s.toks) { s with toks := s.toks + 1 }) :
    wpAny (model prog w) A (call (.builtin "chr") [.int (n : Int) t]) Q E s := chr_of_range (by lia) (by lia) h
section
local macro_rules | `(tactic| walk_at "call type:int") => `(tactic| (refine call_hexS (by assumption) (by assumption) ?_; try dsimp only))
local macro_rules | `(tactic| walk_at "call builtin:chr") => `(tactic| (refine call_chrN (by lia) ?_; try dsimp only))
theorem unquote_cl (a b : Nat) (t : Tok) :
   Cl PySem.Challenge.rw_ny0161_02.row.prog w (Mine.hdK w.params) p loose mean mg mb 37 0 (fun _ => isHex a = true ∧ isHex b = true) [.str ⟨#[61, a, b]⟩ t] (fun v nw => nw = [] ∧ ∃ t', v = .str ⟨#[16 * hexv a + hexv b]⟩ t') := by
  k_fill
  refine Cl.intro (binds := [(Str.ofString "s", .str ⟨#[61, a, b]⟩ t)]) (by k_is) (by k_is) (fun s _ => BindsTo.of_eq rfl) (locs rfl) rfl rfl rfl (by decide) ?_
  intro dp un gd outer A₀ base g L' s B F N X T hpre hdp hun
  obtain ⟨ha, hb⟩ := hpre
  have hsz : (⟨#[61, a, b]⟩ : Str).length ≤ 10 := Nat.le_of_ble_eq_true rfl
  have h1 := hexv_lt ha
  have h2 := hexv_lt hb
  try k_fold
  k_steps
  refine ⟨_, _, _, _, rfl, ⟨rfl, _, rfl⟩, by assumption, by assumption⟩
end
noncomputable def hexDig (d : Nat) : Nat := if d < 10 then 48 + d else 55 + d
noncomputable def qmap : List Str := (List.range 256).map fun c => (⟨#[61, hexDig (c / 16), hexDig (c % 16)]⟩ : Str)
theorem qmap_at {l : List Str} {c : Nat} (h : l = qmap) (hc : c < 256) : l.getD (c : Int).toNat Str.empty = ⟨#[61, hexDig (c / 16), hexDig (c % 16)]⟩ := by
  subst h
  simp [qmap, hc]
theorem quote_cl (c : Nat) (t : Tok) :
   Cl PySem.Challenge.rw_ny0161_02.row.prog w (Mine.hdK w.params) p loose mean mg mb 44 0 (fun _ => c < 256) [.str ⟨#[c]⟩ t] (fun v nw => nw = [] ∧ ∃ t', v = .str ⟨#[61, hexDig (c / 16), hexDig (c % 16)]⟩ t') := by
  k_fill
  refine Cl.intro (binds := [(Str.ofString "c", .str ⟨#[c]⟩ t)]) (by k_is) (by k_is) (fun s _ => BindsTo.of_eq rfl) (locs rfl) rfl rfl rfl (by decide) ?_
  intro dp un gd outer A₀ base g L' s B F N X T hpre hdp hun
  try k_fold
  k_steps
  refine ⟨_, _, _, _, rfl, ⟨rfl, _, congrArg (fun x => Value.str x _) ?_⟩, by assumption, by assumption⟩
  exact qmap_at (by decide +kernel) hpre
end
end Mine
-- text D0b
namespace Mine
/-- what decode makes of one stripped line -/
noncomputable def decL (e : List Nat) : List Nat → List Nat
  | [] => []
  | [c] => if c = 61 then [] else c :: e
  | [c, a] => c :: decL e [a]
  | c :: a :: b :: r => if c = 61 ∧ isHex a = true ∧ isHex b = true then (16 * hexv a + hexv b) :: (if r = [] then e else decL e r) else c :: decL e (a :: b :: r)
theorem decL_plain {e : List Nat} {c : Nat} {r : List Nat} (h : c ≠ 61) : decL e (c :: r) = c :: (if r = [] then e else decL e r) := by
  match r with
  | [] => simp [decL, h]
  | [a] => simp [decL]
  | a :: b :: r => rw [decL, if_neg (fun q => h q.1)]; simp
theorem decL_soft {e : List Nat} : decL e [61] = [] := by simp [decL]
theorem decL_hex {e : List Nat} {a b : Nat} {r : List Nat} (ha : isHex a = true) (hb : isHex b = true) : decL e (61 :: a :: b :: r) = (16 * hexv a + hexv b) :: (if r = [] then e else decL e r) := by
  rw [decL, if_pos ⟨rfl, ha, hb⟩]
theorem decL_no {e : List Nat} {r : List Nat} (hr : r ≠ []) (h : ∀ a b r', r = a :: b :: r' → (isHex a && isHex b) = false) : decL e (61 :: r) = 61 :: decL e r := by
  match r, hr, h with
  | [a], _, _ => simp [decL]
  | a :: b :: r', _, h =>
    rw [decL, if_neg]
    rintro ⟨_, h1, h2⟩
    have := h a b r' rfl
    rw [h1, h2] at this
    cases this
noncomputable def decLine (e : List Nat) (l : Str) : List Nat := if ch (Txt.rstrip l) = [] then e else decL e (ch (Txt.rstrip l))
noncomputable def decPre (e : List Nat) (ls : List Str) : List Nat := (ls.map (decLine e)).flatten
noncomputable def decF (x : Str) (e : List Nat) : List Nat :=
  if x.length = 0 then ch x else
  if ((ch x).getD (x.length - 1) 0 ≠ 13 ∧ (ch x).getD (x.length - 1) 0 ≠ 10) ∧ e.isSuffixOf (decPre e (Txt.lines x)) = true then
    (if e = [] then [] else (decPre e (Txt.lines x)).take ((decPre e (Txt.lines x)).length - e.length))
  else decPre e (Txt.lines x)
theorem drop_at {l : List Nat} {k : Nat} (h : k < l.length) : l.drop k = l.getD k 0 :: l.drop (k + 1) := by
  rw [List.drop_eq_getElem_cons h]; simp [List.getD, h]
section
variable {r y d1 : Str} {k : Nat} {D : List Nat}
theorem item_eq61 {x : Str} {i : Int} (h0 : 0 ≤ i) (h1 : i < x.length) : (Txt.item x i != Str.ofString "=") = decide ((ch x).getD i.toNat 0 ≠ 61) := by
  rw [item_ch h0 h1]
  have e : (Str.ofString "=" : Str) = ⟨#[61]⟩ := by decide +kernel
  rw [e, Bool.eq_iff_iff, bne_iff_ne, decide_eq_true_eq]
  constructor
  · intro h hh; exact h (by rw [hh])
  · intro h hh; exact h (by have := congrArg (fun s : Str => ch s) hh; simpa [ch] using this)
theorem hex_in {x : Str} {i : Int} (h0 : 0 ≤ i) (h1 : i < x.length) :
    (PySem.Builtin.Str.occurrences (Str.ofString "0123456789abcdefABCDEF") (Txt.item x i) 0 (Str.ofString "0123456789abcdefABCDEF").length 1).isEmpty = !isHex ((ch x).getD i.toNat 0) := by
  rw [item_ch h0 h1, contains_one]
  generalize (ch x).getD i.toNat 0 = c
  have e : ch (Str.ofString "0123456789abcdefABCDEF") = hexList := by decide +kernel
  rw [e]
  congr 1
  rw [Bool.eq_iff_iff, decide_eq_true_eq]
  constructor
  · intro h; exact (by decide : ∀ c ∈ hexList, isHex c = true) c h
  · exact hex_mem
theorem way_plain_end (hd : ch d1 ++ decL (ch y) ((ch r).drop k) = D) (hlt : (k : Int) < r.length) (hne : (Txt.item r k != Str.ofString "=") = true) (hn : (k : Int) + 1 = r.length) :
    ∃ k' : Nat, (k : Int) + 1 = k' ∧ k' ≤ (ch r).length ∧ ch (d1 ++ Txt.item r k ++ y) ++ decL (ch y) ((ch r).drop k') = D := by
  have hl := ch_len r
  rw [item_eq61 (by lia) hlt] at hne
  refine ⟨k + 1, by lia, by lia, ?_⟩
  rw [drop_at (by lia : k < (ch r).length)] at hd
  have e : (ch r).drop (k + 1) = [] := List.drop_eq_nil_of_le (by lia)
  rw [decL_plain (by simpa using hne), e] at hd
  rw [e, ch_app, ch_app, item_ch (by lia) hlt, ch_one, ← hd]
  simp [decL]
theorem way_plain (hd : ch d1 ++ decL (ch y) ((ch r).drop k) = D) (hlt : (k : Int) < r.length) (hne : (Txt.item r k != Str.ofString "=") = true) (hn : ¬ (k : Int) + 1 = r.length) :
    ∃ k' : Nat, (k : Int) + 1 = k' ∧ k' ≤ (ch r).length ∧ ch (d1 ++ Txt.item r k) ++ decL (ch y) ((ch r).drop k') = D := by
  have hl := ch_len r
  rw [item_eq61 (by lia) hlt] at hne
  refine ⟨k + 1, by lia, by lia, ?_⟩
  rw [drop_at (by lia : k < (ch r).length)] at hd
  have e : (ch r).drop (k + 1) ≠ [] := by intro h; have := List.drop_eq_nil_iff.mp h; lia
  rw [decL_plain (by simpa using hne), if_neg e] at hd
  rw [ch_app, item_ch (by lia) hlt, ch_one, ← hd]
  simp
theorem way_soft (hd : ch d1 ++ decL (ch y) ((ch r).drop k) = D) (hlt : (k : Int) < r.length) (hne : (Txt.item r k != Str.ofString "=") = false) (hn : (k : Int) + 1 = r.length) :
    ∃ k' : Nat, (k : Int) + 1 = k' ∧ k' ≤ (ch r).length ∧ ch d1 ++ decL (ch y) ((ch r).drop k') = D := by
  have hl := ch_len r
  rw [item_eq61 (by lia) hlt] at hne
  refine ⟨k + 1, by lia, by lia, ?_⟩
  rw [drop_at (by lia : k < (ch r).length)] at hd
  have e : (ch r).drop (k + 1) = [] := List.drop_eq_nil_of_le (by lia)
  have h61 : (ch r).getD k 0 = 61 := by simpa using hne
  rw [e, h61, decL_soft] at hd
  rw [e, ← hd]
  simp [decL]
theorem way_no (hd : ch d1 ++ decL (ch y) ((ch r).drop k) = D) (hlt : (k : Int) < r.length) (hne : (Txt.item r k != Str.ofString "=") = false) (hn : ¬ (k : Int) + 1 = r.length)
    (h : (k : Int) + 2 < r.length → (isHex ((ch r).getD (k + 1) 0) && isHex ((ch r).getD (k + 2) 0)) = false) :
    ∃ k' : Nat, (k : Int) + 1 = k' ∧ k' ≤ (ch r).length ∧ ch (d1 ++ Txt.item r k) ++ decL (ch y) ((ch r).drop k') = D := by
  have hl := ch_len r
  rw [item_eq61 (by lia) hlt] at hne
  refine ⟨k + 1, by lia, by lia, ?_⟩
  rw [drop_at (by lia : k < (ch r).length)] at hd
  have e : (ch r).drop (k + 1) ≠ [] := by intro h; have := List.drop_eq_nil_iff.mp h; lia
  have h61 : (ch r).getD k 0 = 61 := by simpa using hne
  rw [h61, decL_no e] at hd
  · rw [ch_app, item_ch (by lia) hlt, ch_one, ← hd]
    have : (ch r).getD (k : Int).toNat 0 = 61 := h61
    rw [this]; simp
  · intro a b r' hr
    have h1 : k + 2 < (ch r).length := by
      have := congrArg List.length hr
      simp only [List.length_drop, List.length_cons] at this
      lia
    rw [drop_at (by lia : k + 1 < (ch r).length), drop_at (by lia : k + 1 + 1 < (ch r).length)] at hr
    injection hr with q1 q2
    injection q2 with q2 q3
    rw [← q1, ← q2]
    exact h (by lia)
theorem way_no1 (hd : ch d1 ++ decL (ch y) ((ch r).drop k) = D) (hlt : (k : Int) < r.length) (hne : (Txt.item r k != Str.ofString "=") = false) (hn : ¬ (k : Int) + 1 = r.length) (h2 : (k : Int) + 2 < r.length)
    (h : (PySem.Builtin.Str.occurrences (Str.ofString "0123456789abcdefABCDEF") (Txt.item r ((k : Int) + 2)) 0 (Str.ofString "0123456789abcdefABCDEF").length 1).isEmpty = true) :
    ∃ k' : Nat, (k : Int) + 1 = k' ∧ k' ≤ (ch r).length ∧ ch (d1 ++ Txt.item r k) ++ decL (ch y) ((ch r).drop k') = D :=
  way_no hd hlt hne hn fun _ => by
    rw [hex_in (by lia) h2] at h
    have e : ((k : Int) + 2).toNat = k + 2 := by lia
    rw [e] at h
    simp at h
    simp [h]
theorem way_no2 (hd : ch d1 ++ decL (ch y) ((ch r).drop k) = D) (hlt : (k : Int) < r.length) (hne : (Txt.item r k != Str.ofString "=") = false) (hn : ¬ (k : Int) + 1 = r.length) (h2 : (k : Int) + 2 < r.length)
    (h : (PySem.Builtin.Str.occurrences (Str.ofString "0123456789abcdefABCDEF") (Txt.item r ((k : Int) + 1)) 0 (Str.ofString "0123456789abcdefABCDEF").length 1).isEmpty = true) :
    ∃ k' : Nat, (k : Int) + 1 = k' ∧ k' ≤ (ch r).length ∧ ch (d1 ++ Txt.item r k) ++ decL (ch y) ((ch r).drop k') = D :=
  way_no hd hlt hne hn fun _ => by
    rw [hex_in (by lia) (by lia)] at h
    have e : ((k : Int) + 1).toNat = k + 1 := by lia
    rw [e] at h
    simp at h
    simp [h]
theorem way_no3 (hd : ch d1 ++ decL (ch y) ((ch r).drop k) = D) (hlt : (k : Int) < r.length) (hne : (Txt.item r k != Str.ofString "=") = false) (hn : ¬ (k : Int) + 1 = r.length) (h2 : ¬ (k : Int) + 2 < r.length) :
    ∃ k' : Nat, (k : Int) + 1 = k' ∧ k' ≤ (ch r).length ∧ ch (d1 ++ Txt.item r k) ++ decL (ch y) ((ch r).drop k') = D :=
  way_no hd hlt hne hn fun h => absurd h h2
theorem way_hexs (h2 : (k : Int) + 2 < r.length) (hne : (Txt.item r k != Str.ofString "=") = false)
    (ha : (PySem.Builtin.Str.occurrences (Str.ofString "0123456789abcdefABCDEF") (Txt.item r ((k : Int) + 1)) 0 (Str.ofString "0123456789abcdefABCDEF").length 1).isEmpty = false)
    (hb : (PySem.Builtin.Str.occurrences (Str.ofString "0123456789abcdefABCDEF") (Txt.item r ((k : Int) + 2)) 0 (Str.ofString "0123456789abcdefABCDEF").length 1).isEmpty = false) :
    (ch r).getD k 0 = 61 ∧ isHex ((ch r).getD (k + 1) 0) = true ∧ isHex ((ch r).getD (k + 2) 0) = true := by
  rw [hex_in (by lia) (by lia)] at ha hb
  rw [item_eq61 (by lia) (by lia)] at hne
  have e1 : ((k : Int) + 1).toNat = k + 1 := by lia
  have e2 : ((k : Int) + 2).toNat = k + 2 := by lia
  rw [e1] at ha
  rw [e2] at hb
  refine ⟨by simpa using hne, ?_, ?_⟩
  · revert ha; cases isHex ((ch r).getD (k + 1) 0) <;> simp
  · revert hb; cases isHex ((ch r).getD (k + 2) 0) <;> simp
theorem slice3 (hlt : (k : Int) + 2 < r.length) : Txt.slice r (some (k : Int)) (some ((k : Int) + 3)) = ⟨#[(ch r).getD k 0, (ch r).getD (k + 1) 0, (ch r).getD (k + 2) 0]⟩ := by
  apply ext_ch
  have hl := ch_len r
  rw [slice_gen]
  have e1 : clipN 0 (some (k : Int)) r.length = k := by unfold clipN; simp only []; lia
  have e2 : clipN r.length (some ((k : Int) + 3)) r.length = k + 3 := by unfold clipN; simp only []; lia
  rw [e1, e2, drop_at (by lia : k < (ch r).length), drop_at (by lia : k + 1 < (ch r).length), drop_at (by lia : k + 1 + 1 < (ch r).length)]
  have e3 : k + 3 - k = 3 := by lia
  rw [e3]
  simp [ch]
theorem way_hex_end (hd : ch d1 ++ decL (ch y) ((ch r).drop k) = D) (h61 : (ch r).getD k 0 = 61) (ha : isHex ((ch r).getD (k + 1) 0) = true) (hb : isHex ((ch r).getD (k + 2) 0) = true) (hn : (k : Int) + 3 = r.length) :
    ∃ k' : Nat, (k : Int) + 3 = k' ∧ k' ≤ (ch r).length ∧ ch (d1 ++ ⟨#[16 * hexv ((ch r).getD (k + 1) 0) + hexv ((ch r).getD (k + 2) 0)]⟩ ++ y) ++ decL (ch y) ((ch r).drop k') = D := by
  have hl := ch_len r
  refine ⟨k + 3, by lia, by lia, ?_⟩
  rw [drop_at (by lia : k < (ch r).length), drop_at (by lia : k + 1 < (ch r).length), drop_at (by lia : k + 1 + 1 < (ch r).length), h61, decL_hex ha hb] at hd
  have e : (ch r).drop (k + 1 + 1 + 1) = [] := List.drop_eq_nil_of_le (by lia)
  rw [if_pos e] at hd
  have e : (ch r).drop (k + 3) = [] := List.drop_eq_nil_of_le (by lia)
  rw [e, ch_app, ch_app, ch_one, ← hd]
  simp [decL]
theorem way_hex (hd : ch d1 ++ decL (ch y) ((ch r).drop k) = D) (hlt : (k : Int) + 2 < r.length) (h61 : (ch r).getD k 0 = 61) (ha : isHex ((ch r).getD (k + 1) 0) = true) (hb : isHex ((ch r).getD (k + 2) 0) = true) (hn : ¬ (k : Int) + 3 = r.length) :
    ∃ k' : Nat, (k : Int) + 3 = k' ∧ k' ≤ (ch r).length ∧ ch (d1 ++ ⟨#[16 * hexv ((ch r).getD (k + 1) 0) + hexv ((ch r).getD (k + 2) 0)]⟩) ++ decL (ch y) ((ch r).drop k') = D := by
  have hl := ch_len r
  refine ⟨k + 3, by lia, by lia, ?_⟩
  rw [drop_at (by lia : k < (ch r).length), drop_at (by lia : k + 1 < (ch r).length), drop_at (by lia : k + 1 + 1 < (ch r).length), h61, decL_hex ha hb] at hd
  have e : (ch r).drop (k + 1 + 1 + 1) ≠ [] := by intro h; have := List.drop_eq_nil_iff.mp h; lia
  rw [if_neg e] at hd
  rw [ch_app, ch_one, ← hd]
  simp
end
theorem crlf_in {x : Str} (h : x.length ≠ 0) : (PySem.Builtin.Str.occurrences (Str.ofString "\r\n") (Txt.item x (-1)) 0 (Str.ofString "\r\n").length 1).isEmpty = decide ((ch x).getD (x.length - 1) 0 ≠ 13 ∧ (ch x).getD (x.length - 1) 0 ≠ 10) := by
  rw [item_last h, contains_one]
  have e : ch (Str.ofString "\r\n") = [13, 10] := by decide +kernel
  rw [e]
  generalize (ch x).getD (x.length - 1) 0 = c
  by_cases h1 : c = 13 <;> by_cases h2 : c = 10 <;> simp [h1, h2]
section
variable {x y c : Str}
theorem decF_cut (h0 : x.length ≠ 0) (hc : ch c = decPre (ch y) (Txt.lines x)) (hin : (PySem.Builtin.Str.occurrences (Str.ofString "\r\n") (Txt.item x (-1)) 0 (Str.ofString "\r\n").length 1).isEmpty = true) (he : Txt.endswith c y = true) :
    ch (Txt.slice c none (some (-(y.length : Int)))) = decF x (ch y) := by
  rw [crlf_in h0, decide_eq_true_eq] at hin
  rw [ends_ch, hc] at he
  unfold decF
  rw [if_neg h0, if_pos ⟨hin, he⟩, ← hc, slice_gen]
  have e1 : clipN 0 none c.length = 0 := rfl
  have hs := (List.isSuffixOf_iff_suffix.mp he).length_le
  rw [← hc, ch_len, ch_len] at hs
  have hl := ch_len c
  have hly := ch_len y
  rw [e1, List.drop_zero, Nat.sub_zero]
  split
  · rename_i h
    have : y.length = 0 := by rw [← hly, h]; rfl
    have e2 : clipN c.length (some (-(y.length : Int))) c.length = 0 := by unfold clipN; simp only []; lia
    rw [e2, List.take_zero]
  · rename_i h
    have : y.length ≠ 0 := by intro q; rw [← hly] at q; exact h (List.eq_nil_of_length_eq_zero q)
    have e2 : clipN c.length (some (-(y.length : Int))) c.length = c.length - y.length := by unfold clipN; simp only []; lia
    rw [e2, ch_len, ch_len]
theorem decF_stay (h0 : x.length ≠ 0) (hc : ch c = decPre (ch y) (Txt.lines x)) (he : Txt.endswith c y = false) : ch c = decF x (ch y) := by
  rw [ends_ch, hc] at he
  unfold decF
  rw [if_neg h0, if_neg (fun q => by rw [he] at q; exact Bool.noConfusion q.2), hc]
theorem decF_stay' (h0 : x.length ≠ 0) (hc : ch c = decPre (ch y) (Txt.lines x)) (hin : (PySem.Builtin.Str.occurrences (Str.ofString "\r\n") (Txt.item x (-1)) 0 (Str.ofString "\r\n").length 1).isEmpty = false) : ch c = decF x (ch y) := by
  rw [crlf_in h0, decide_eq_false_iff_not] at hin
  unfold decF
  rw [if_neg h0, if_neg (fun q => hin q.1), hc]
end
end Mine
-- text D1b
namespace Mine
open PySem.Calls PySem.Spec
set_option maxRecDepth 100000
set_option maxHeartbeats 8000000
theorem decPre_snoc {e : List Nat} {ls : List Str} {i : Nat} {a : Str} (h : ls[i]? = some a) : decPre e (ls.take (i + 1)) = decPre e (ls.take i) ++ decLine e a := by
  unfold decPre
  rw [List.take_add_one, h]
  simp
theorem decPre_le {e : List Nat} {ls : List Str} (i : Nat) : (decPre e (ls.take i)).length ≤ (decPre e ls).length := by
  conv => rhs; rw [← List.take_append_drop i ls]
  unfold decPre
  rw [List.map_append, List.flatten_append, List.length_append]
  lia
section
variable {w : World} {p : Program} {loose : List Str} {mean : ExcName → Option Value} {mg mb : Str → Option Value}
section
local macro_rules | `(tactic| walk_at $k:str) => do
  if ["exec While Compare cons nil", "pyIter ref", "KswEnd", "call ref", "Turn"].contains k.getString then `(tactic| refine Stop.out ?_) else Lean.Macro.throwUnsupported
theorem decode_clv (vs : List Value) (x y : Str) (t u : Tok) (hb : ∀ (s : Shared) (fd : FuncData) (oc : Value) (od : Option Addr) (osl : Array (Option Value)), (Mine.hdK w.params).lookup 65 = some ⟨oc, od, .func fd, osl⟩ → (Mine.hdK w.params).In s.heap → BindsTo s fd ⟨vs, []⟩ [(Str.ofString "encoded", .str x t), (Str.ofString "eol", .str y u)]) :
   Cl PySem.Challenge.rw_ny0161_02.row.prog w (Mine.hdK w.params) p loose mean mg mb 65 1 (fun _ => x.length ≤ 1000000 ∧ y.length ≤ 10 ∧ (decPre (ch y) (Txt.lines x)).length ≤ 1000000) vs (fun v nw => nw = [] ∧ ∃ z t', v = .str z t' ∧ ch z = decF x (ch y)) := by
  k_fill
  refine Cl.intro (binds := [(Str.ofString "encoded", .str x t), (Str.ofString "eol", .str y u)]) (by k_is) (by k_is) (fun s X => hb s _ _ _ _ (by k_is) X) (locs rfl) rfl rfl rfl (by decide) ?_
  intro dp un gd outer A₀ base g L' s B F N X T hpre hdp hun
  obtain ⟨hx, hy, hb⟩ := hpre
  try k_fold
  k_steps
  · rename_i hx0 _ _ l _ _ hl hsa hshort _ _ _
    unfold Stop
    rw [hl] at hshort
    refine' for_led (fun _ => _) (fun c : Str × Tok => [(Str.ofString "decoded", Value.str c.1 c.2)]) ["decoded", "i", "n", "c"] (fun i c => ch c.1 = decPre (ch y) ((Txt.lines x).take i)) (Str.ofString "", ?tk) rfl (fun _ => List.Mem.head _) (by assumption) (by assumption) ?hk ?hp ?turn ?done
    case hk =>
      intro q hq
      rw [List.mem_singleton.mp hq]; exact rfl
    case hp => rfl
    case turn =>
      intro i v c u' h tk own hv hoff hP F' N'
      obtain ⟨a, ta, rfl, ha⟩ := strs_at hv
      dsimp only [kstB] at F'
      rw [hl] at ha
      have hal : a.length ≤ 1000000 := Nat.le_trans (hshort a (List.mem_of_getElem? ha)) hx
      have hPl := decPre_le (e := ch y) (ls := Txt.lines x) (i + 1)
      rw [decPre_snoc ha, List.length_append, ← hP, ch_len] at hPl
      have hdl : c.1.length ≤ 1000000 := by lia
      k_steps
      · unfold Stop
        have hne : ((Txt.rstrip a).length : Int) ≠ 0 := by with_reducible assumption
        have hne' : ch (Txt.rstrip a) ≠ [] := by
          intro h0
          have := ch_len (Txt.rstrip a)
          rw [h0] at this
          exact hne (by rw [← this]; rfl)
        have hline : decLine (ch y) a = decL (ch y) (ch (Txt.rstrip a)) := if_neg hne'
        rw [hline] at hPl
        refine' ksw_while (fun _ => _) (fun d : Int × Tok × Str × Tok => [(Str.ofString "i", Value.int d.1 d.2.1), (Str.ofString "decoded", Value.str d.2.2.1 d.2.2.2)]) (fun _ => True) ["i", "decoded", "c"]
          (fun d => ∃ k : Nat, d.1 = k ∧ k ≤ (ch (Txt.rstrip a)).length ∧ ch d.2.2.1 ++ decL (ch y) ((ch (Txt.rstrip a)).drop k) = ch c.1 ++ decL (ch y) (ch (Txt.rstrip a)))
          (fun d => (ch (Txt.rstrip a)).length - d.1.toNat) (0, ?t1, c.1, ?t2) (by assumption) (by assumption) trivial ?hk ?hp ?turn
        case hk =>
          intro q hq
          rcases List.mem_cons.mp hq with rfl | hq
          · exact rfl
          · rw [List.mem_singleton.mp hq]; exact rfl
        case hp => exact ⟨0, rfl, Nat.zero_le _, rfl⟩
        case turn =>
          intro d u2 h2 tk2 _ hd F2 N2
          obtain ⟨i1, i2, d1, d2⟩ := d
          dsimp only [kstB] at hd F2
          obtain ⟨k, rfl, hk, hd⟩ := hd
          have hkl := ch_len (Txt.rstrip a)
          have hd1 : d1.length ≤ 1000000 := by
            have := congrArg List.length hd
            rw [List.length_append, List.length_append, ch_len, ch_len] at this
            lia
          have hk2 : k ≤ (Txt.rstrip a).length := by lia
          have hr1 : (Txt.rstrip a).length ≤ 1000000 := by lia
          k_steps
          all_goals unfold Stop
          · (((refine' ksw_end (_, _, _, _) (by assumption) (by assumption) (fun _ hp => hp) trivial ?hk ?hr ?hp ?hm); (case hk => (refine List.forall_mem_cons.mpr ⟨?_, List.forall_mem_cons.mpr ⟨?_, List.forall_mem_nil _⟩⟩ <;> (dsimp only; exact rfl))); (case hr => (intro z h2 h3; (try dsimp only); repeat (first | with_reducible rfl | refine (if_neg (by first | exact Bool.eq_false_iff.mp h3 | exact off_sub h3 (by decide) | exact off_stored h3 rfl | exact h2 _ (.head _) | exact h2 _ (.tail _ (.head _)) | exact h2 _ (.tail _ (.tail _ (.head _))) | exact h2 _ (.tail _ (.tail _ (.tail _ (.head _)))))).trans ?_)))))
            case hp => exact way_plain_end hd (by with_reducible assumption) (by with_reducible assumption) (by with_reducible assumption)
            case hm => (dsimp only; lia)
          · (((refine' ksw_end (_, _, _, _) (by assumption) (by assumption) (fun _ hp => hp) trivial ?hk ?hr ?hp ?hm); (case hk => (refine List.forall_mem_cons.mpr ⟨?_, List.forall_mem_cons.mpr ⟨?_, List.forall_mem_nil _⟩⟩ <;> (dsimp only; exact rfl))); (case hr => (intro z h2 h3; (try dsimp only); repeat (first | with_reducible rfl | refine (if_neg (by first | exact Bool.eq_false_iff.mp h3 | exact off_sub h3 (by decide) | exact off_stored h3 rfl | exact h2 _ (.head _) | exact h2 _ (.tail _ (.head _)) | exact h2 _ (.tail _ (.tail _ (.head _))) | exact h2 _ (.tail _ (.tail _ (.tail _ (.head _)))))).trans ?_)))))
            case hp => exact way_plain hd (by with_reducible assumption) (by with_reducible assumption) (by with_reducible assumption)
            case hm => (dsimp only; lia)
          · (((refine' ksw_end (_, _, _, _) (by assumption) (by assumption) (fun _ hp => hp) trivial ?hk ?hr ?hp ?hm); (case hk => (refine List.forall_mem_cons.mpr ⟨?_, List.forall_mem_cons.mpr ⟨?_, List.forall_mem_nil _⟩⟩ <;> (dsimp only; exact rfl))); (case hr => (intro z h2 h3; (try dsimp only); repeat (first | with_reducible rfl | refine (if_neg (by first | exact Bool.eq_false_iff.mp h3 | exact off_sub h3 (by decide) | exact off_stored h3 rfl | exact h2 _ (.head _) | exact h2 _ (.tail _ (.head _)) | exact h2 _ (.tail _ (.tail _ (.head _))) | exact h2 _ (.tail _ (.tail _ (.tail _ (.head _)))))).trans ?_)))))
            case hp => exact way_soft hd (by with_reducible assumption) (by with_reducible assumption) (by with_reducible assumption)
            case hm => (dsimp only; lia)
          · exfalso; lia
          · (((refine' ksw_end (_, _, _, _) (by assumption) (by assumption) (fun _ hp => hp) trivial ?hk ?hr ?hp ?hm); (case hk => (refine List.forall_mem_cons.mpr ⟨?_, List.forall_mem_cons.mpr ⟨?_, List.forall_mem_nil _⟩⟩ <;> (dsimp only; exact rfl))); (case hr => (intro z h2 h3; (try dsimp only); repeat (first | with_reducible rfl | refine (if_neg (by first | exact Bool.eq_false_iff.mp h3 | exact off_sub h3 (by decide) | exact off_stored h3 rfl | exact h2 _ (.head _) | exact h2 _ (.tail _ (.head _)) | exact h2 _ (.tail _ (.tail _ (.head _))) | exact h2 _ (.tail _ (.tail _ (.tail _ (.head _)))))).trans ?_)))))
            case hp => exact way_no2 hd (by with_reducible assumption) (by with_reducible assumption) (by with_reducible assumption) (by with_reducible assumption) (by with_reducible assumption)
            case hm => (dsimp only; lia)
          · exfalso; lia
          · (((refine' ksw_end (_, _, _, _) (by assumption) (by assumption) (fun _ hp => hp) trivial ?hk ?hr ?hp ?hm); (case hk => (refine List.forall_mem_cons.mpr ⟨?_, List.forall_mem_cons.mpr ⟨?_, List.forall_mem_nil _⟩⟩ <;> (dsimp only; exact rfl))); (case hr => (intro z h2 h3; (try dsimp only); repeat (first | with_reducible rfl | refine (if_neg (by first | exact Bool.eq_false_iff.mp h3 | exact off_sub h3 (by decide) | exact off_stored h3 rfl | exact h2 _ (.head _) | exact h2 _ (.tail _ (.head _)) | exact h2 _ (.tail _ (.tail _ (.head _))) | exact h2 _ (.tail _ (.tail _ (.tail _ (.head _)))))).trans ?_)))))
            case hp => exact way_no1 hd (by with_reducible assumption) (by with_reducible assumption) (by with_reducible assumption) (by with_reducible assumption) (by with_reducible assumption)
            case hm => (dsimp only; lia)
          · have h3 : (k : Int) + 2 < (Txt.rstrip a).length := by assumption
            obtain ⟨q1, q2, q3⟩ := way_hexs h3 (by with_reducible assumption) (by with_reducible assumption) (by with_reducible assumption)
            rw [slice3 h3, q1]
            refine (unquote_cl _ _ _).use B (by k_asm) X (by k_asm) T rfl ⟨q2, q3⟩ (by lia) (by lia) ?_
            rintro v nw h9 tk9 ⟨rfl, t9, rfl⟩ F9 N9 _ _
            rw [List.nil_append] at N9
            have hone : (⟨#[16 * hexv ((ch (Txt.rstrip a)).getD (k + 1) 0) + hexv ((ch (Txt.rstrip a)).getD (k + 2) 0)]⟩ : Str).length ≤ 1 := Nat.le_refl _
            dsimp only
            k_steps
            all_goals unfold Stop
            · (((refine' ksw_end (_, _, _, _) (by assumption) (by assumption) (fun _ hp => hp) trivial ?hk ?hr ?hp ?hm); (case hk => (refine List.forall_mem_cons.mpr ⟨?_, List.forall_mem_cons.mpr ⟨?_, List.forall_mem_nil _⟩⟩ <;> (dsimp only; exact rfl))); (case hr => (intro z h2 h3; (try dsimp only); repeat (first | with_reducible rfl | refine (if_neg (by first | exact Bool.eq_false_iff.mp h3 | exact off_sub h3 (by decide) | exact off_stored h3 rfl | exact h2 _ (.head _) | exact h2 _ (.tail _ (.head _)) | exact h2 _ (.tail _ (.tail _ (.head _))) | exact h2 _ (.tail _ (.tail _ (.tail _ (.head _)))))).trans ?_)))))
              case hp => exact way_hex_end hd q1 q2 q3 (by with_reducible assumption)
              case hm => (dsimp only; lia)
            · (((refine' ksw_end (_, _, _, _) (by assumption) (by assumption) (fun _ hp => hp) trivial ?hk ?hr ?hp ?hm); (case hk => (refine List.forall_mem_cons.mpr ⟨?_, List.forall_mem_cons.mpr ⟨?_, List.forall_mem_nil _⟩⟩ <;> (dsimp only; exact rfl))); (case hr => (intro z h2 h3; (try dsimp only); repeat (first | with_reducible rfl | refine (if_neg (by first | exact Bool.eq_false_iff.mp h3 | exact off_sub h3 (by decide) | exact off_stored h3 rfl | exact h2 _ (.head _) | exact h2 _ (.tail _ (.head _)) | exact h2 _ (.tail _ (.tail _ (.head _))) | exact h2 _ (.tail _ (.tail _ (.tail _ (.head _)))))).trans ?_)))))
              case hp => exact way_hex hd h3 q1 q2 q3 (by with_reducible assumption)
              case hm => (dsimp only; lia)
          · exfalso; lia
          · (((refine' ksw_end (_, _, _, _) (by assumption) (by assumption) (fun _ hp => hp) trivial ?hk ?hr ?hp ?hm); (case hk => (refine List.forall_mem_cons.mpr ⟨?_, List.forall_mem_cons.mpr ⟨?_, List.forall_mem_nil _⟩⟩ <;> (dsimp only; exact rfl))); (case hr => (intro z h2 h3; (try dsimp only); repeat (first | with_reducible rfl | refine (if_neg (by first | exact Bool.eq_false_iff.mp h3 | exact off_sub h3 (by decide) | exact off_stored h3 rfl | exact h2 _ (.head _) | exact h2 _ (.tail _ (.head _)) | exact h2 _ (.tail _ (.tail _ (.head _))) | exact h2 _ (.tail _ (.tail _ (.tail _ (.head _)))))).trans ?_)))))
            case hp => exact way_no3 hd (by with_reducible assumption) (by with_reducible assumption) (by with_reducible assumption) (by assumption)
            case hm => (dsimp only; lia)
          · (((refine' turn_next (_, _) (by assumption) (by assumption) (fun _ hp => List.mem_append.mpr (.inl hp)) (fun _ hp => List.mem_append.mpr (.inr hp)) (by assumption) ?hk ?hr ?hp); (case hk => (refine List.forall_mem_cons.mpr ⟨?_, List.forall_mem_nil _⟩; dsimp only; exact rfl))))
            case hr => ((intro z h1 h2 h3; (try dsimp only); repeat (first | with_reducible rfl | refine (if_neg (by first | exact h1 | exact Bool.eq_false_iff.mp h3 | exact off_sub h3 (by decide) | exact off_stored h3 rfl | exact h2 _ (.head _) | exact h2 _ (.tail _ (.head _)) | exact h2 _ (.tail _ (.tail _ (.head _))) | exact h2 _ (.tail _ (.tail _ (.tail _ (.head _)))))).trans ?_)))
            case hp =>
              have e : (ch (Txt.rstrip a)).drop k = [] := List.drop_eq_nil_of_le (by lia)
              rw [e] at hd
              rw [decPre_snoc ha, hline, ← hP, ← hd]
              simp [decL]
      · dsimp only
        refine' turn_cont (_, _) (by assumption) (by assumption) (fun _ hp => List.mem_append.mpr (.inl hp)) (fun _ hp => List.mem_append.mpr (.inr hp)) hoff ?hk ?hr ?hp
        case hk => (refine List.forall_mem_cons.mpr ⟨?_, List.forall_mem_nil _⟩; dsimp only; exact rfl)
        case hr => ((intro z h1 h2 h3; (try dsimp only); repeat (first | with_reducible rfl | refine (if_neg (by first | exact h1 | exact Bool.eq_false_iff.mp h3 | exact off_sub h3 (by decide) | exact off_stored h3 rfl | exact h2 _ (.head _) | exact h2 _ (.tail _ (.head _)) | exact h2 _ (.tail _ (.tail _ (.head _))) | exact h2 _ (.tail _ (.tail _ (.tail _ (.head _)))))).trans ?_)))
        case hp =>
          have h0 : ((Txt.rstrip a).length : Int) = 0 := by assumption
          have h1 : ch (Txt.rstrip a) = [] := List.eq_nil_of_length_eq_zero (by rw [ch_len]; lia)
          have e : decLine (ch y) a = ch y := if_pos h1
          rw [decPre_snoc ha, e, ← hP]
          exact ch_app _ _
    case done => 
      intro c u2 h2 tk2 hP F2 N2
      dsimp only [kstB] at F2
      have hlen : (strValues l).length = (Txt.lines x).length := by rw [← hl]; simp [strValues]
      rw [hlen, List.take_length] at hP
      have hcl : c.1.length ≤ 1000000 := by rw [← ch_len, hP]; exact hb
      have hx1 : x.length ≠ 0 := by lia
      k_steps
      · refine ⟨_, _, _, _, rfl, ⟨rfl, _, _, rfl, ?_⟩, by k_asm, News.nil⟩
        exact decF_cut hx1 hP (by with_reducible assumption) (by with_reducible assumption)
      · refine ⟨_, _, _, _, rfl, ⟨rfl, _, _, rfl, ?_⟩, by k_asm, News.nil⟩
        exact decF_stay hx1 hP (by with_reducible assumption)
      · refine ⟨_, _, _, _, rfl, ⟨rfl, _, _, rfl, ?_⟩, by k_asm, News.nil⟩
        exact decF_stay' hx1 hP (by with_reducible assumption)
  · refine ⟨_, _, _, _, rfl, ⟨rfl, _, _, rfl, ?_⟩, by k_asm, News.nil⟩
    have h0 : (x.length : Int) = 0 := by assumption
    exact (if_pos (by lia)).symm
end
theorem decode_cl1 (x : Str) (t : Tok) :
   Cl PySem.Challenge.rw_ny0161_02.row.prog w (Mine.hdK w.params) p loose mean mg mb 65 1 (fun _ => x.length ≤ 1000000 ∧ (decPre ([10]) (Txt.lines x)).length ≤ 1000000) [.str x t] (fun v nw => nw = [] ∧ ∃ z t', v = .str z t' ∧ ch z = decF x ([10])) := by
  have e : ch (Str.ofString "\n") = [10] := by decide +kernel
  rw [← e]
  have C := decode_clv (w := w) (p := p) (loose := loose) (mean := mean) (mg := mg) (mb := mb) [.str x t] x (Str.ofString "\n") t 189 (fun s fd oc od osl h X => by
    k_fill
    have h2 : (Mine.hdK w.params).lookup 65 = some (hdFn 20 (.type "function") 3 (.ref 58) (.none) (.none) (.str (Str.ofString "cpy313.email.quoprimime") 1234) (.ref 64)) := by k_is
    rw [h2] at h
    injection h with h
    cases h
    exact binds_K X rfl (by k_is) rfl rfl rfl)
  intro dp un gd cn cs a ccd cl outer A₀ base h₀ L m news s Q E B F X N T hk hp
  exact C dp un gd cn cs a ccd cl outer A₀ base h₀ L m news s Q E B F X N T hk ⟨hp.1, by decide +kernel, hp.2⟩
end
end Mine
-- text TRb
namespace Mine
open PySem.Calls PySem.Builtin
theorem wp_tableLookup {prog : Program} {w : World} {A : Around} {E : Value → Shared → Prop} {s : Shared} {l : Addr} {items : Array Value} {c : Nat} {x : PySem.Str} {t : Tok} {Q : Str.Mapped → Shared → Prop}
    (hl : s.heap.IsList l items) (hc : c < 256) (hx : items[c]? = some (.str x t)) (h : Q (.text x) { s with toks := s.toks + 1 }) : wpAny (model prog w) A (Str.tableLookup (.ref l) c) Q E s := by
  unfold Str.tableLookup
  refine wpAny_bind (wpAny_attempt (wpAny_bind (wpAny_mkInt ?_)))
  refine wpAny_getItem_list hl (by lia) (by lia) (by simpa using hx) ?_
  dsimp only
  refine wpAny_bind ?_
  show wpAny _ _ (do notAStandIn (.str x t); pure none) _ _ _
  refine wpAny_bind (wpAny_pure ?_)
  refine wpAny_pure ?_
  dsimp only
  refine wpAny_bind ?_
  show wpAny _ _ (pure (some x)) _ _ _
  refine wpAny_pure ?_
  exact wpAny_pure h
theorem foldl_cps (ps : List PySem.Str) : ∀ a : Array Nat, (ps.foldl (fun acc p => acc ++ p.cps) a).toList = a.toList ++ (ps.map ch).flatten := by
  induction ps with
  | nil => intro a; simp
  | cons p r ih => intro a; rw [List.foldl_cons, ih]; simp [ch]
theorem lookup_mem {c : Nat} {a : Option Nat} : ∀ {l : List (Nat × Option Nat)}, l.lookup c = some a → (c, a) ∈ l
  | (d, b) :: r, h => by
    rw [List.lookup_cons] at h
    by_cases q : c = d
    · subst q
      have : some b = some a := by simpa using h
      injection this with e
      rw [e]
      exact .head _
    · have q' : (c == d) = false := by simpa using q
      rw [q'] at h
      exact .tail _ (lookup_mem h)
theorem tr_meets {x : PySem.Str} {t : Tok} {l : Addr} {items : Array Value} (enc : Nat → List Nat) (hx0 : x.length ≠ 0) (hx : ∀ c ∈ ch x, c < 256) (hsz : ((ch x).flatMap enc).length ≤ 1000000)
    (ht : ∀ c, c < 256 → ∃ tk, items[c]? = some (.str ⟨(enc c).toArray⟩ tk)) :
    Meets (Builtin.«str.translate» ⟨[.str x t, .ref l], []⟩) (fun _ R s => s.heap.IsList l items ∧ ∀ k t', R (.ok (.ret (.str ⟨((ch x).flatMap enc).toArray⟩ t'))) { s with toks := k }) := by
  refine .of_wp fun prog w A R s h => ?_
  obtain ⟨hl, h⟩ := h
  unfold Builtin.«str.translate»
  refine wpAny_bind (wpAny_of_eq (a := ((.str x t : Value), x, (.ref l : Value))) (by first | rfl | kernel_rfl!) ?_)
  dsimp only
  rw [if_neg (by simpa using hx0)]
  refine wpAny_bind (MeetsSeq2.wpAny_forIn_array _ (fun rem st s' => ∃ pre k, s' = { s with toks := k } ∧ pre ++ rem = ch x ∧ (st.1.reverse.map ch).flatten = pre.flatMap enc ∧ st.2.1 = (pre.flatMap enc).length ∧ (∀ p ∈ st.2.2.2.1, ∃ d, p.2 = some d ∧ enc p.1 = [d]) ∧ st.2.2.2.2 = false)
    (fun st s' => wpAny (model prog w) A.in1 _ _ _ s') ?turn ?fin x.cps _ ?init)
  case init => exact ⟨[], s.toks, rfl, rfl, rfl, rfl, fun p hp => (nomatch hp), rfl⟩
  case fin =>
    rintro ⟨pieces, total, fast, known, ad⟩ s' ⟨pre, k, rfl, h1, h2, h3, h4, h5⟩
    rw [List.append_nil] at h1
    subst h1
    dsimp only at h2 h3 ⊢
    have hn : ¬ (Str.tooLong total = true) := by
      unfold Str.tooLong
      rw [h3, decide_eq_true_eq, PySem.sizeLine_eq]
      lia
    rw [if_neg hn]
    have e : (⟨List.foldl (fun acc p => acc ++ p.cps) #[] pieces.reverse⟩ : PySem.Str) = ⟨((ch x).flatMap enc).toArray⟩ := by
      apply ext_ch
      show (List.foldl (fun acc p => acc ++ p.cps) #[] pieces.reverse).toList = _
      rw [foldl_cps, h2]
      simp [ch]
    rw [e]
    unfold retStr
    refine wpAny_bind (wpAny_mkStr (wpAny_pure ⟨_, rfl, h _ _⟩) ?_)
    rw [PySem.sizeLine_eq]; show ((ch x).flatMap enc).toArray.size ≤ _; rw [List.size_toArray]; lia
  case turn =>
    rintro c rest ⟨pieces, total, fast, known, ad⟩ s' ⟨pre, k, rfl, h1, h2, h3, h4, h5⟩
    dsimp only at h2 h3 h4 h5 ⊢
    subst h5
    have hc : c < 256 := hx c (by rw [← h1]; simp)
    obtain ⟨tk, htk⟩ := ht c hc
    have hpre : (pre.flatMap enc).length ≤ 1000000 := by
      refine Nat.le_trans ?_ hsz
      rw [← h1, List.flatMap_append, List.length_append]
      lia
    have hn : ¬ (Str.tooLong total = true) := by
      unfold Str.tooLong
      rw [h3, decide_eq_true_eq, PySem.sizeLine_eq]
      lia
    rw [if_neg hn]
    have hend : ∀ (p : PySem.Str) (fs : Bool) (kn : List (Nat × Option Nat)) (k' n' : Nat), ch p = enc c → n' = p.length → (∀ p ∈ kn, ∃ d, p.2 = some d ∧ enc p.1 = [d]) →
        ∃ pre' k'', ({ s with toks := k' } : Shared) = { s with toks := k'' } ∧ pre' ++ rest = ch x ∧ ((p :: pieces).reverse.map ch).flatten = pre'.flatMap enc ∧ total + n' = (pre'.flatMap enc).length ∧ (∀ p ∈ kn, ∃ d, p.2 = some d ∧ enc p.1 = [d]) ∧ false = false := by
      intro p fs kn k' n' hp hn' hkn
      refine ⟨pre ++ [c], k', rfl, by rw [← h1]; simp, ?_, ?_, hkn, rfl⟩
      · rw [List.reverse_cons, List.map_append, List.flatten_append, h2, List.flatMap_append]
        simp [hp]
      · rw [List.flatMap_append, List.length_append, h3, hn', ← ch_len, hp]
        simp
    have slow : ∀ (fs : Bool) (kn : List (Nat × Option Nat)) (k' : Nat), (∀ p ∈ kn, ∃ d, p.2 = some d ∧ enc p.1 = [d]) →
        wpAny (model prog w) A.in1 (do
          let m ← Str.tableLookup (.ref l) c
          match m with
            | Str.Mapped.keep => pure (ForInStep.yield (({ cps := #[c] } : PySem.Str) :: pieces, total + 1, fs, kn, false))
            | Str.Mapped.drop => pure (ForInStep.yield (pieces, total, fs, kn, true))
            | Str.Mapped.char d => pure (ForInStep.yield (({ cps := #[d] } : PySem.Str) :: pieces, total + 1, fs, kn, false))
            | Str.Mapped.text t => pure (ForInStep.yield (t :: pieces, total + t.length, fs, kn, false)))
          (fun r s' => ∃ b', r = .yield b' ∧ ∃ pre k, s' = { s with toks := k } ∧ pre ++ rest = ch x ∧ (b'.1.reverse.map ch).flatten = pre.flatMap enc ∧ b'.2.1 = (pre.flatMap enc).length ∧ (∀ p ∈ b'.2.2.2.1, ∃ d, p.2 = some d ∧ enc p.1 = [d]) ∧ b'.2.2.2.2 = false)
          (fun e s' => R (Except.error e) s') { s with toks := k' } := by
      intro fs kn k' hkn
      refine wpAny_bind (wp_tableLookup hl hc htk ?_)
      dsimp only
      exact wpAny_pure ⟨_, rfl, hend _ fs kn _ _ rfl rfl hkn⟩
    cases fast with
    | false =>
      simp only [Bool.false_eq_true, if_false]
      exact wpAny_mono (slow false known k h4) (fun r s' q => by obtain ⟨b', rfl, i⟩ := q; exact i) fun _ _ q => q
    | true =>
      simp only [if_true]
      cases hk : List.lookup c known with
      | some a =>
        dsimp only
        refine wpAny_bind (wpAny_pure ?_)
        have hm : (c, a) ∈ known := lookup_mem hk
        obtain ⟨d, hd1, hd2⟩ := h4 _ hm
        dsimp only at hd1 hd2
        subst hd1
        dsimp only
        exact wpAny_pure (hend ⟨#[d]⟩ true known k 1 hd2.symm rfl h4)
      | none =>
        dsimp only
        refine wpAny_bind (wp_tableLookup hl hc htk ?_)
        dsimp only
        by_cases hq : ((⟨(enc c).toArray⟩ : PySem.Str).length == 1 && (⟨(enc c).toArray⟩ : PySem.Str).cps.all fun x => decide (x < 128)) = true
        · rw [if_pos hq]
          have : ∃ d, enc c = [d] := by
            simp only [Bool.and_eq_true, beq_iff_eq] at hq
            have h1 : (enc c).length = 1 := by rw [← hq.1, ← ch_len]
            match hE : enc c, h1 with
            | [d], _ => exact ⟨d, rfl⟩
          obtain ⟨d, hd⟩ := this
          rw [hd]
          dsimp only
          refine wpAny_bind (wpAny_pure ?_)
          show wpAny _ _ (pure (ForInStep.yield (({ cps := #[d] } : PySem.Str) :: pieces, total + 1, true, (c, some d) :: known, false))) _ _ _
          refine wpAny_pure (hend ⟨#[d]⟩ true _ _ 1 hd.symm rfl ?_)
          intro p hp
          rcases List.mem_cons.mp hp with rfl | hp
          · exact ⟨d, rfl, hd⟩
          · exact h4 p hp
        · rw [if_neg hq]
          dsimp only
          refine wpAny_bind (wpAny_pure ?_)
          dsimp only
          refine wpAny_bind (wpAny_rule ?_)
          simp only [Bool.false_eq_true, if_false]
          exact wpAny_mono (slow false known _ h4) (fun r s' q => by obtain ⟨b', rfl, i⟩ := q; exact i) fun _ _ q => q
theorem gm_translate {M : Model} {A : Around} {E : Value → Shared → Prop} {s : Shared} {x : PySem.Str} {t : Tok} {pl : Sem Bool} {Q : Value × List Value → Shared → Prop} (h : Q (.builtin "str.translate", [.str x t]) s) : wpAny M A (getMethod (.str x t) "translate" pl) Q E s := by
  with_reducible exact GM.of (.str x t) (typeIs_str _ _ _) F.slot_str_translate F.type_str_translate GM.noRef h
section
variable {prog : Program} {w : World} {A : Around} {E : Value → Shared → Prop} {s : Shared}
theorem call_translate {x : PySem.Str} {t : Tok} {l : Addr} {items : Array Value} {Q : Value → Shared → Prop} (enc : Nat → List Nat) (hl : s.heap.IsList l items) (hx0 : x.length ≠ 0) (hx : ∀ c ∈ ch x, c < 256) (hsz : ((ch x).flatMap enc).length ≤ 1000000)
    (ht : ∀ c, c < 256 → ∃ tk, items[c]? = some (.str ⟨(enc c).toArray⟩ tk)) (h : ∀ k t', Q (.str ⟨((ch x).flatMap enc).toArray⟩ t') { s with toks := k }) :
    wpAny (model prog w) A (call (.builtin "str.translate") [.str x t, .ref l]) Q E s :=
  call_meets F.slot_str_translate (typeIs_str _ _ _) F.entry_str_translate (F.args_str_translate_2 _ _) (tr_meets enc hx0 hx hsz ht) ⟨hl, h⟩
end
end Mine
-- text E0b
namespace Mine
set_option maxRecDepth 100000
noncomputable def plainC (c : Nat) : Bool := (32 ≤ c && c ≤ 126 && c != 61) || c == 9 || c == 10 || c == 13
noncomputable def encC (c : Nat) : List Nat := if plainC c then [c] else [61, hexDig (c / 16), hexDig (c % 16)]
noncomputable def tabChk (items : Array Value) : Bool := (List.range 256).all fun c => match items[c]? with | some (.str s _) => s == ⟨(encC c).toArray⟩ | _ => false
theorem tabChk_at {items : Array Value} (h : tabChk items = true) : ∀ c, c < 256 → ∃ tk, items[c]? = some (.str ⟨(encC c).toArray⟩ tk) := by
  intro c hc
  have := List.all_eq_true.mp h c (List.mem_range.mpr hc)
  split at this
  · rename_i s tk e
    rw [e, beq_iff_eq.mp this]
    exact ⟨tk, rfl⟩
  · cases this
theorem tab46 (P : Params) : ∃ items n, (Mine.hdK P).lookup 46 = some ⟨.type "list", none, .seq items n, #[]⟩ ∧ ∀ c, c < 256 → ∃ tk, items[c]? = some (.str ⟨(encC c).toArray⟩ tk) :=
  ⟨_, _, rfl, tabChk_at (by decide +kernel)⟩
theorem isList46 {P : Params} {h : Heap} (X : (Mine.hdK P).In h) : ∃ items, h.IsList 46 items ∧ ∀ c, c < 256 → ∃ tk, items[c]? = some (.str ⟨(encC c).toArray⟩ tk) := by
  obtain ⟨items, n, e, q⟩ := tab46 P
  exact ⟨items, ⟨_, X _ _ e, rfl, n, rfl⟩, q⟩
/-- body_encode's inner loop: the pieces cut off a line, and what is left of it (k = maxlinelen - 1) -/
noncomputable def encW (k : Nat) (r : List Nat) : List (List Nat) × List Nat :=
  if h : k + 2 ≤ r.length ∧ 3 ≤ k then
    if r.getD (k - 2) 0 = 61 then (r.take (k - 1) :: (encW k (r.drop (k - 2))).1, (encW k (r.drop (k - 2))).2)
    else if r.getD (k - 1) 0 = 61 then (r.take k :: (encW k (r.drop (k - 1))).1, (encW k (r.drop (k - 1))).2)
    else ((r.take k ++ [61]) :: (encW k (r.drop k)).1, (encW k (r.drop k)).2)
  else ([], r)
termination_by r.length
decreasing_by all_goals (rw [List.length_drop]; lia)
noncomputable def quoteL (c : Nat) : List Nat := [61, hexDig (c / 16), hexDig (c % 16)]
/-- a line's last piece (l: the line, r: what is left of it) -/
noncomputable def encLast (k : Nat) (e l r : List Nat) : List Nat :=
  if l ≠ [] ∧ (l.getD (l.length - 1) 0 = 32 ∨ l.getD (l.length - 1) 0 = 9) then
    r.take (r.length - 1) ++ (if r.length + 1 ≤ k then quoteL (l.getD (l.length - 1) 0) else if r.length = k then l.getD (l.length - 1) 0 :: 61 :: e else (61 :: e) ++ quoteL (l.getD (l.length - 1) 0))
  else r
noncomputable def encLine (k : Nat) (e l : List Nat) : List (List Nat) := (encW k l).1 ++ [encLast k e l (encW k l).2]
/-- the joined pieces -/
noncomputable def joinL (e : List Nat) : List (List Nat) → List Nat
  | [] => []
  | [a] => a
  | a :: b :: r => a ++ e ++ joinL e (b :: r)
noncomputable def encPieces (k : Nat) (e : List Nat) (x : List Nat) : List (List Nat) :=
  ((Txt.lines ⟨x.toArray⟩).map fun l => encLine k e (ch l)).flatten ++ (if x.getD (x.length - 1) 0 = 13 ∨ x.getD (x.length - 1) 0 = 10 then [[]] else [])
noncomputable def encF (k : Nat) (e x : List Nat) : List Nat := joinL e (encPieces k e (x.flatMap encC))
end Mine
-- text EWb
set_option linter.unusedVariables false
set_option linter.unusedSimpArgs false
namespace Mine
section
variable {K : Nat} {r : List Nat}
theorem encW_1 (h : K + 2 ≤ r.length) (hK : 3 ≤ K) (h1 : r.getD (K - 2) 0 = 61) : encW K r = (r.take (K - 1) :: (encW K (r.drop (K - 2))).1, (encW K (r.drop (K - 2))).2) := by
  rw [encW, dif_pos ⟨h, hK⟩, if_pos h1]
theorem encW_2 (h : K + 2 ≤ r.length) (hK : 3 ≤ K) (h1 : r.getD (K - 2) 0 ≠ 61) (h2 : r.getD (K - 1) 0 = 61) : encW K r = (r.take K :: (encW K (r.drop (K - 1))).1, (encW K (r.drop (K - 1))).2) := by
  rw [encW, dif_pos ⟨h, hK⟩, if_neg h1, if_pos h2]
theorem encW_3 (h : K + 2 ≤ r.length) (hK : 3 ≤ K) (h1 : r.getD (K - 2) 0 ≠ 61) (h2 : r.getD (K - 1) 0 ≠ 61) : encW K r = ((r.take K ++ [61]) :: (encW K (r.drop K)).1, (encW K (r.drop K)).2) := by
  rw [encW, dif_pos ⟨h, hK⟩, if_neg h1, if_neg h2]
theorem encW_0 (h : ¬ K + 2 ≤ r.length) : encW K r = ([], r) := by
  rw [encW, dif_neg (fun q => h q.1)]
end
theorem item_is61 {x : Str} {i : Int} (h0 : 0 ≤ i) (h1 : i < x.length) : (Txt.item x i == Str.ofString "=") = decide ((ch x).getD i.toNat 0 = 61) := by
  have := item_eq61 h0 h1
  have e : (Txt.item x i == Str.ofString "=") = !(Txt.item x i != Str.ofString "=") := by simp [bne]
  rw [e, this]
  by_cases h : (ch x).getD i.toNat 0 = 61 <;> simp [h]
theorem getD_drop (l : List Nat) (a b : Nat) : (l.drop a).getD b 0 = l.getD (a + b) 0 := by simp [List.getD]
abbrev chp (ps : List (Str × Tok)) : List (List Nat) := ps.map fun p => ch p.1
section
variable {a : Str} {m : Int} {k0 : Nat} {pcs : List (Str × Tok)} {P : List (List Nat)} {W : List (List Nat) × List Nat} {t : Tok}
theorem slice_nat (x : Str) {i j : Int} {p q : Nat} (hi : i = p) (hj : j = q) (hpq : p ≤ q) (hq : q ≤ x.length) : ch (Txt.slice x (some i) (some j)) = ((ch x).drop p).take (q - p) := by
  rw [slice_gen]
  have e1 : clipN 0 (some i) x.length = p := by unfold clipN; simp only []; lia
  have e2 : clipN x.length (some j) x.length = q := by unfold clipN; simp only []; lia
  rw [e1, e2]
theorem ew1 (hm : 4 ≤ m) (hle : (k0 : Int) ≤ a.length - 1 - m) (h61 : (Txt.item a ((k0 : Int) + (m - 1) - 2) == Str.ofString "=") = true)
    (h1 : chp pcs ++ (encW (m - 1).toNat ((ch a).drop k0)).1 = P) (h2 : (encW (m - 1).toNat ((ch a).drop k0)).2 = W.2) :
    ∃ k1 : Nat, (k0 : Int) + (m - 1) - 2 = k1 ∧ k1 ≤ (ch a).length ∧ chp (pcs ++ [(Txt.slice a (some (k0 : Int)) (some ((k0 : Int) + (m - 1) - 1)), t)]) ++ (encW (m - 1).toNat ((ch a).drop k1)).1 = P ∧ (encW (m - 1).toNat ((ch a).drop k1)).2 = W.2 := by
  obtain ⟨K, hK⟩ : ∃ K : Nat, m - 1 = K := ⟨(m - 1).toNat, by lia⟩
  have hl := ch_len a
  have eK : (m - 1).toNat = K := by lia
  have e1 : (k0 : Int) + (m - 1) - 2 = ((k0 + (K - 2) : Nat) : Int) := by lia
  rw [eK] at h1 h2 ⊢
  rw [e1, item_is61 (by lia) (by lia), decide_eq_true_eq] at h61
  have hr : K + 2 ≤ ((ch a).drop k0).length := by rw [List.length_drop]; lia
  have h61' : ((ch a).drop k0).getD (K - 2) 0 = 61 := by rw [getD_drop]; exact h61
  rw [encW_1 hr (by lia) h61'] at h1 h2
  refine ⟨k0 + (K - 2), e1, by lia, ?_, ?_⟩
  · rw [← h1]
    simp only [chp, List.map_append, List.map_cons, List.map_nil]
    rw [slice_nat a (p := k0) (q := k0 + (K - 1)) rfl (by lia) (by lia) (by lia), ← List.drop_drop]
    rw [show k0 + (K - 1) - k0 = K - 1 from by lia]
    simp
  · rw [← List.drop_drop]; exact h2
theorem ew2 (hm : 4 ≤ m) (hle : (k0 : Int) ≤ a.length - 1 - m) (h60 : (Txt.item a ((k0 : Int) + (m - 1) - 2) == Str.ofString "=") = false) (h61 : (Txt.item a ((k0 : Int) + (m - 1) - 1) == Str.ofString "=") = true)
    (h1 : chp pcs ++ (encW (m - 1).toNat ((ch a).drop k0)).1 = P) (h2 : (encW (m - 1).toNat ((ch a).drop k0)).2 = W.2) :
    ∃ k1 : Nat, (k0 : Int) + (m - 1) - 1 = k1 ∧ k1 ≤ (ch a).length ∧ chp (pcs ++ [(Txt.slice a (some (k0 : Int)) (some ((k0 : Int) + (m - 1))), t)]) ++ (encW (m - 1).toNat ((ch a).drop k1)).1 = P ∧ (encW (m - 1).toNat ((ch a).drop k1)).2 = W.2 := by
  obtain ⟨K, hK⟩ : ∃ K : Nat, m - 1 = K := ⟨(m - 1).toNat, by lia⟩
  have hl := ch_len a
  have eK : (m - 1).toNat = K := by lia
  have e0 : (k0 : Int) + (m - 1) - 2 = ((k0 + (K - 2) : Nat) : Int) := by lia
  have e1 : (k0 : Int) + (m - 1) - 1 = ((k0 + (K - 1) : Nat) : Int) := by lia
  rw [eK] at h1 h2 ⊢
  rw [e0, item_is61 (by lia) (by lia), decide_eq_false_iff_not] at h60
  rw [e1, item_is61 (by lia) (by lia), decide_eq_true_eq] at h61
  have hr : K + 2 ≤ ((ch a).drop k0).length := by rw [List.length_drop]; lia
  have h60' : ((ch a).drop k0).getD (K - 2) 0 ≠ 61 := by rw [getD_drop]; exact h60
  have h61' : ((ch a).drop k0).getD (K - 1) 0 = 61 := by rw [getD_drop]; exact h61
  rw [encW_2 hr (by lia) h60' h61'] at h1 h2
  refine ⟨k0 + (K - 1), e1, by lia, ?_, ?_⟩
  · rw [← h1]
    simp only [chp, List.map_append, List.map_cons, List.map_nil]
    rw [slice_nat a (p := k0) (q := k0 + K) rfl (by lia) (by lia) (by lia), ← List.drop_drop]
    rw [show k0 + K - k0 = K from by lia]
    simp
  · rw [← List.drop_drop]; exact h2
theorem ew3 (hm : 4 ≤ m) (hle : (k0 : Int) ≤ a.length - 1 - m) (h60 : (Txt.item a ((k0 : Int) + (m - 1) - 2) == Str.ofString "=") = false) (h61 : (Txt.item a ((k0 : Int) + (m - 1) - 1) == Str.ofString "=") = false)
    (h1 : chp pcs ++ (encW (m - 1).toNat ((ch a).drop k0)).1 = P) (h2 : (encW (m - 1).toNat ((ch a).drop k0)).2 = W.2) :
    ∃ k1 : Nat, (k0 : Int) + (m - 1) = k1 ∧ k1 ≤ (ch a).length ∧ chp (pcs ++ [(Txt.slice a (some (k0 : Int)) (some ((k0 : Int) + (m - 1))) ++ Str.ofString "=", t)]) ++ (encW (m - 1).toNat ((ch a).drop k1)).1 = P ∧ (encW (m - 1).toNat ((ch a).drop k1)).2 = W.2 := by
  obtain ⟨K, hK⟩ : ∃ K : Nat, m - 1 = K := ⟨(m - 1).toNat, by lia⟩
  have hl := ch_len a
  have eK : (m - 1).toNat = K := by lia
  have e0 : (k0 : Int) + (m - 1) - 2 = ((k0 + (K - 2) : Nat) : Int) := by lia
  have e1 : (k0 : Int) + (m - 1) - 1 = ((k0 + (K - 1) : Nat) : Int) := by lia
  rw [eK] at h1 h2 ⊢
  rw [e0, item_is61 (by lia) (by lia), decide_eq_false_iff_not] at h60
  rw [e1, item_is61 (by lia) (by lia), decide_eq_false_iff_not] at h61
  have hr : K + 2 ≤ ((ch a).drop k0).length := by rw [List.length_drop]; lia
  have h60' : ((ch a).drop k0).getD (K - 2) 0 ≠ 61 := by rw [getD_drop]; exact h60
  have h61' : ((ch a).drop k0).getD (K - 1) 0 ≠ 61 := by rw [getD_drop]; exact h61
  rw [encW_3 hr (by lia) h60' h61'] at h1 h2
  have e : ch (Str.ofString "=") = [61] := by decide +kernel
  refine ⟨k0 + K, by lia, by lia, ?_, ?_⟩
  · rw [← h1]
    simp only [chp, List.map_append, List.map_cons, List.map_nil]
    rw [ch_app, e, slice_nat a (p := k0) (q := k0 + K) rfl (by lia) (by lia) (by lia), ← List.drop_drop]
    rw [show k0 + K - k0 = K from by lia]
    simp
  · rw [← List.drop_drop]; exact h2
theorem ew0 (hle : ¬ (k0 : Int) ≤ a.length - 1 - m) (hm : 4 ≤ m) (hk : k0 ≤ (ch a).length)
    (h1 : chp pcs ++ (encW (m - 1).toNat ((ch a).drop k0)).1 = P) (h2 : (encW (m - 1).toNat ((ch a).drop k0)).2 = W.2) : chp pcs = P ∧ (ch a).drop k0 = W.2 ∧ (W.2.length : Int) = a.length - k0 := by
  have hl := ch_len a
  rw [encW_0 (by rw [List.length_drop]; lia)] at h1 h2
  refine ⟨by simpa using h1, h2, ?_⟩
  rw [← h2, List.length_drop]; lia
end
theorem encW_len (K : Nat) (r : List Nat) : (encW K r).1.length ≤ r.length := by
  generalize hn : r.length = n
  induction n using Nat.strongRecOn generalizing r with
  | ind n ih =>
    by_cases h : K + 2 ≤ r.length ∧ 3 ≤ K
    · by_cases h1 : r.getD (K - 2) 0 = 61
      · rw [encW_1 h.1 h.2 h1]
        have := ih (r.drop (K - 2)).length (by rw [List.length_drop]; lia) _ rfl
        rw [List.length_drop] at this
        simp only [List.length_cons]; lia
      · by_cases h2 : r.getD (K - 1) 0 = 61
        · rw [encW_2 h.1 h.2 h1 h2]
          have := ih (r.drop (K - 1)).length (by rw [List.length_drop]; lia) _ rfl
          rw [List.length_drop] at this
          simp only [List.length_cons]; lia
        · rw [encW_3 h.1 h.2 h1 h2]
          have := ih (r.drop K).length (by rw [List.length_drop]; lia) _ rfl
          rw [List.length_drop] at this
          simp only [List.length_cons]; lia
    · rw [encW, dif_neg h]; simp
theorem encLine_len (K : Nat) (e l : List Nat) : (encLine K e l).length ≤ l.length + 1 := by
  unfold encLine
  rw [List.length_append]
  have := encW_len K l
  simp only [List.length_cons, List.length_nil]; lia
theorem flat_len (f : Str → List (List Nat)) (hf : ∀ a, (f a).length ≤ a.length + 1) : ∀ ls : List Str, ((ls.map f).flatten).length ≤ (ls.map (·.length)).sum + ls.length
  | [] => by simp
  | a :: r => by
    have := flat_len f hf r
    have := hf a
    simp only [List.map_cons, List.flatten_cons, List.length_append, List.sum_cons, List.length_cons]; lia
theorem sum_take (ls : List Str) (i : Nat) : ((ls.take i).map (·.length)).sum + (ls.take i).length ≤ (ls.map (·.length)).sum + ls.length := by
  conv => rhs; rw [← List.take_append_drop i ls]
  rw [List.map_append, List.sum_append, List.length_append]; lia
theorem pre_len (K : Nat) (e : List Nat) (z : Str) (i : Nat) : ((((Txt.lines z).take i).map fun a => encLine K e (ch a)).flatten).length ≤ z.length + 1 := by
  refine Nat.le_trans (flat_len (fun a => encLine K e (ch a)) (fun a => by have := encLine_len K e (ch a); rw [ch_len] at this; exact this) _) ?_
  exact Nat.le_trans (sum_take _ _) (StrLaws.lines_weight z)
theorem encC_len (c : Nat) : 1 ≤ (encC c).length ∧ (encC c).length ≤ 3 := by unfold encC; split <;> simp
theorem flatC_len : ∀ l : List Nat, l.length ≤ (l.flatMap encC).length ∧ (l.flatMap encC).length ≤ 3 * l.length
  | [] => by simp
  | c :: r => by
    have := flatC_len r
    have := encC_len c
    simp only [List.flatMap_cons, List.length_append, List.length_cons]; lia
section
variable {a y : Str} {m : Int} {k0 : Nat} {r : List Nat}
theorem blank_in (h : a.length ≠ 0) : (PySem.Builtin.Str.occurrences (Str.ofString " \t") (Txt.item a (-1)) 0 (Str.ofString " \t").length 1).isEmpty = !decide ((ch a).getD ((ch a).length - 1) 0 = 32 ∨ (ch a).getD ((ch a).length - 1) 0 = 9) := by
  rw [item_last h, contains_one, ch_len]
  have e : ch (Str.ofString " \t") = [32, 9] := by decide +kernel
  rw [e]
  simp
theorem slice_sn (hk : k0 ≤ (ch a).length) : ch (Txt.slice a (some (k0 : Int)) none) = (ch a).drop k0 := by
  have hl := ch_len a
  rw [slice_gen]
  have e1 : clipN 0 (some (k0 : Int)) a.length = k0 := by unfold clipN; simp only []; lia
  have e2 : clipN a.length none a.length = a.length := rfl
  rw [e1, e2, List.take_of_length_le]
  rw [List.length_drop]; lia
theorem slice_s1 (hk : k0 ≤ (ch a).length) (h : a.length ≠ 0) : ch (Txt.slice a (some (k0 : Int)) (some (-1))) = ((ch a).drop k0).take (((ch a).drop k0).length - 1) := by
  have hl := ch_len a
  rw [slice_gen]
  have e1 : clipN 0 (some (k0 : Int)) a.length = k0 := by unfold clipN; simp only []; lia
  have e2 : clipN a.length (some (-1)) a.length = a.length - 1 := by unfold clipN; simp only []; lia
  rw [e1, e2, List.length_drop]
  congr 1; lia
theorem end_plain0 (hk : k0 ≤ (ch a).length) (hr : (ch a).drop k0 = r) (h0 : (a.length : Int) = 0) : ch (Txt.slice a (some (k0 : Int)) none) = encLast (m - 1).toNat (ch y) (ch a) r := by
  have hl := ch_len a
  have : ch a = [] := List.eq_nil_of_length_eq_zero (by lia)
  rw [slice_sn hk, hr, encLast, if_neg (fun q => q.1 this)]
theorem end_plain1 (hk : k0 ≤ (ch a).length) (hr : (ch a).drop k0 = r) (h0 : (a.length : Int) ≠ 0) (hb : (PySem.Builtin.Str.occurrences (Str.ofString " \t") (Txt.item a (-1)) 0 (Str.ofString " \t").length 1).isEmpty = true) :
    ch (Txt.slice a (some (k0 : Int)) none) = encLast (m - 1).toNat (ch y) (ch a) r := by
  rw [blank_in (by lia)] at hb
  rw [slice_sn hk, hr, encLast, if_neg]
  rintro ⟨_, q⟩
  rw [decide_eq_true q] at hb
  cases hb
theorem last_blank (h0 : (a.length : Int) ≠ 0) (hb : (PySem.Builtin.Str.occurrences (Str.ofString " \t") (Txt.item a (-1)) 0 (Str.ofString " \t").length 1).isEmpty = false) :
    ch a ≠ [] ∧ ((ch a).getD ((ch a).length - 1) 0 = 32 ∨ (ch a).getD ((ch a).length - 1) 0 = 9) := by
  have hl := ch_len a
  rw [blank_in (by lia)] at hb
  refine ⟨fun q => by rw [q] at hl; exact h0 (by rw [← hl]; rfl), ?_⟩
  generalize (ch a).getD ((ch a).length - 1) 0 = c at hb ⊢
  by_cases h1 : c = 32 ∨ c = 9
  · exact h1
  · rw [decide_eq_false h1] at hb; cases hb
theorem end_3 (hk : k0 ≤ (ch a).length) (hr : (ch a).drop k0 = r) (h0 : (a.length : Int) ≠ 0) (hm : 4 ≤ m) (hb : ch a ≠ [] ∧ ((ch a).getD ((ch a).length - 1) 0 = 32 ∨ (ch a).getD ((ch a).length - 1) 0 = 9)) (h3 : 3 ≤ (k0 : Int) - (a.length - 1 - m)) {c : Nat} (hc : c = (ch a).getD (a.length - 1) 0) :
    ch (Txt.slice a (some (k0 : Int)) (some (-1)) ++ ⟨#[61, hexDig (c / 16), hexDig (c % 16)]⟩) = encLast (m - 1).toNat (ch y) (ch a) r := by
  have hl := ch_len a
  have hrl : r.length = a.length - k0 := by rw [← hr, List.length_drop]; lia
  rw [ch_app, slice_s1 hk (by lia), hr, encLast, if_pos hb, if_pos (by lia), hl, ← hc]
  rfl
theorem end_2 (hk : k0 ≤ (ch a).length) (hr : (ch a).drop k0 = r) (h0 : (a.length : Int) ≠ 0) (hm : 4 ≤ m) (hb : ch a ≠ [] ∧ ((ch a).getD ((ch a).length - 1) 0 = 32 ∨ (ch a).getD ((ch a).length - 1) 0 = 9)) (h2 : (k0 : Int) - (a.length - 1 - m) = 2) :
    ch (Txt.slice a (some (k0 : Int)) (some (-1)) ++ (Txt.item a (-1) ++ (Str.ofString "=" ++ y))) = encLast (m - 1).toNat (ch y) (ch a) r := by
  have hl := ch_len a
  have hrl : r.length = a.length - k0 := by rw [← hr, List.length_drop]; lia
  have e : ch (Str.ofString "=") = [61] := by decide +kernel
  rw [ch_app, ch_app, ch_app, slice_s1 hk (by lia), hr, encLast, if_pos hb, if_neg (by lia), if_pos (by lia), hl, item_last (by lia), ch_one, e]
  rfl
theorem end_1 (hk : k0 ≤ (ch a).length) (hr : (ch a).drop k0 = r) (h0 : (a.length : Int) ≠ 0) (hm : 4 ≤ m) (hb : ch a ≠ [] ∧ ((ch a).getD ((ch a).length - 1) 0 = 32 ∨ (ch a).getD ((ch a).length - 1) 0 = 9)) (h3 : ¬ 3 ≤ (k0 : Int) - (a.length - 1 - m)) (h2 : ¬ (k0 : Int) - (a.length - 1 - m) = 2) (hle : ¬ (k0 : Int) ≤ a.length - 1 - m) {c : Nat} (hc : c = (ch a).getD (a.length - 1) 0) :
    ch (Txt.slice a (some (k0 : Int)) (some (-1)) ++ (Str.ofString "=" ++ y ++ ⟨#[61, hexDig (c / 16), hexDig (c % 16)]⟩)) = encLast (m - 1).toNat (ch y) (ch a) r := by
  have hl := ch_len a
  have hrl : r.length = a.length - k0 := by rw [← hr, List.length_drop]; lia
  have e : ch (Str.ofString "=") = [61] := by decide +kernel
  rw [ch_app, ch_app, ch_app, slice_s1 hk (by lia), hr, encLast, if_pos hb, if_neg (by lia), if_neg (by lia), hl, ← hc, e]
  rfl
theorem line_end {pcs cs : List (Str × Tok)} {ls : List Str} {i : Nat} {K : Nat} {e : List Nat} {piece : Str} {t : Tok} (hP : chp cs = ((ls.take i).map fun a => encLine K e (ch a)).flatten) (ha : ls[i]? = some a)
    (h1 : chp pcs = chp cs ++ (encW K (ch a)).1) (h2 : ch piece = encLast K e (ch a) (encW K (ch a)).2) :
    chp (pcs ++ [(piece, t)]) = ((ls.take (i + 1)).map fun a => encLine K e (ch a)).flatten := by
  simp only [chp, List.map_append, List.map_cons, List.map_nil] at h1 hP ⊢
  rw [h1, hP, List.take_add_one, ha, h2]
  simp [encLine]
end
theorem encW_piece (K : Nat) (r : List Nat) : (∀ p ∈ (encW K r).1, p.length ≤ K + 1) ∧ (3 ≤ K → (encW K r).2.length ≤ K + 1) := by
  generalize hn : r.length = n
  induction n using Nat.strongRecOn generalizing r with
  | ind n ih =>
    by_cases h : K + 2 ≤ r.length ∧ 3 ≤ K
    · by_cases h1 : r.getD (K - 2) 0 = 61
      · rw [encW_1 h.1 h.2 h1]
        have q := ih (r.drop (K - 2)).length (by rw [List.length_drop]; lia) _ rfl
        refine ⟨fun p hp => ?_, q.2⟩
        rcases List.mem_cons.mp hp with rfl | hp
        · rw [List.length_take]; lia
        · exact q.1 p hp
      · by_cases h2 : r.getD (K - 1) 0 = 61
        · rw [encW_2 h.1 h.2 h1 h2]
          have q := ih (r.drop (K - 1)).length (by rw [List.length_drop]; lia) _ rfl
          refine ⟨fun p hp => ?_, q.2⟩
          rcases List.mem_cons.mp hp with rfl | hp
          · rw [List.length_take]; lia
          · exact q.1 p hp
        · rw [encW_3 h.1 h.2 h1 h2]
          have q := ih (r.drop K).length (by rw [List.length_drop]; lia) _ rfl
          refine ⟨fun p hp => ?_, q.2⟩
          rcases List.mem_cons.mp hp with rfl | hp
          · rw [List.length_append, List.length_take]; simp only [List.length_cons, List.length_nil]; lia
          · exact q.1 p hp
    · rw [encW, dif_neg h]
      exact ⟨fun p hp => (nomatch hp), fun h3 => by show r.length ≤ K + 1; lia⟩
theorem encLine_piece (K : Nat) (e l : List Nat) (hK : 3 ≤ K) : ∀ p ∈ encLine K e l, p.length ≤ K + e.length + 6 := by
  intro p hp
  have q := encW_piece K l
  unfold encLine at hp
  rcases List.mem_append.mp hp with hp | hp
  · have := q.1 p hp; lia
  · rw [List.mem_singleton.mp hp]
    have := q.2 hK
    unfold encLast quoteL
    split
    · rw [List.length_append, List.length_take]
      split
      · simp only [List.length_cons, List.length_nil]; lia
      · split
        · simp only [List.length_cons, List.length_nil]; lia
        · simp only [List.length_append, List.length_cons, List.length_nil]; lia
    · lia
theorem pieces_len (K : Nat) (e : List Nat) (hK : 3 ≤ K) (ls : List Str) : ∀ p ∈ (ls.map fun a => encLine K e (ch a)).flatten, p.length ≤ K + e.length + 6 := by
  intro p hp
  obtain ⟨l, hl, hp⟩ := List.mem_flatten.mp hp
  obtain ⟨a, _, rfl⟩ := List.mem_map.mp hl
  exact encLine_piece K e (ch a) hK p hp
theorem join_ch (sep : Str) : ∀ xs : List Str, ch (Str.join sep xs) = joinL (ch sep) (xs.map ch)
  | [] => rfl
  | [a] => rfl
  | a :: b :: r => by
    rw [PyProof.Rows.join_cons_cons, ch_app, ch_app, join_ch sep (b :: r)]
    rfl
theorem txtjoin_ch (sep : Str) (xs : List Str) : ch (Txt.join sep xs) = joinL (ch sep) (xs.map ch) := by
  show ch (PySem.Builtin.Str.glued sep xs) = _
  rw [StrLaws.glued_eq_join, join_ch]
theorem join_fits {sep : Str} {ps : List (Str × Tok)} (h1 : ps.length ≤ 40000) (h2 : ∀ p ∈ chp ps, p.length ≤ 200) (h3 : sep.length ≤ 10) : JoinOk sep (ps.map (·.1)) = true := by
  refine joinOk_of ?_
  have : ∀ (l : List (Str × Tok)), (∀ p ∈ chp l, p.length ≤ 200) → ((l.map (·.1)).map (·.length)).sum ≤ 200 * l.length := by
    intro l
    induction l with
    | nil => intro _; simp
    | cons a r ih =>
      intro h
      have h1 := ih fun p hp => h p (List.mem_cons_of_mem _ hp)
      have h2 := h (ch a.1) (List.mem_cons_self ..)
      rw [ch_len] at h2
      simp only [List.map_cons, List.sum_cons, List.length_cons]; lia
  have h4 := this ps h2
  rw [List.length_map]
  have h5 : ps.length * sep.length ≤ 40000 * 10 := Nat.mul_le_mul h1 h3
  lia
theorem chp_map (ps : List (Str × Tok)) : (ps.map (·.1)).map ch = chp ps := by simp [chp]
theorem call_join_N {prog : Program} {w : World} {A : Around} {E : Value → Shared → Prop} {s : Shared} {h₀ : Heap} {L D : Addr} {news : List (Addr × Obj)} {ps : List (Str × Tok)} {n : Nat} {sep : Str} {t : Tok} {Q : Value → Shared → Prop}
    (N : News h₀ L s.heap news) (hl : (D, listOf (strValues ps).toArray n) ∈ news) (h1 : ps.length ≤ 40000) (h2 : ∀ p ∈ chp ps, p.length ≤ 200) (h3 : sep.length ≤ 10)
    (h : ∀ z t' k, ch z = joinL (ch sep) (chp ps) → Q (.str z t') { s with toks := k }) : wpAny (model prog w) A (call (.builtin "str.join") [.str sep t, .ref D]) Q E s :=
  SC.join (show s.heap.IsList D (strValues ps).toArray from ⟨_, (N _ hl).1, rfl, n, rfl⟩) rfl (join_fits h1 h2 h3) fun t' k => h _ t' k (by rw [txtjoin_ch, chp_map])
section
variable {x z : Str} {ps : List (Str × Tok)} {k : Nat} {e : List Nat}
theorem encF_no (hz : (⟨((ch x).flatMap encC).toArray⟩ : Str) = z) (hz0 : z.length ≠ 0) (hP : chp ps = ((Txt.lines z).map fun a => encLine k e (ch a)).flatten) (h : (PySem.Builtin.Str.occurrences (Str.ofString "\r\n") (Txt.item z (-1)) 0 (Str.ofString "\r\n").length 1).isEmpty = true) :
    joinL e (chp ps) = encF k e (ch x) := by
  rw [crlf_in hz0, decide_eq_true_eq] at h
  have hc : ch z = (ch x).flatMap encC := by rw [← hz]
  rw [← ch_len, hc] at h
  unfold encF encPieces
  rw [hz, if_neg (fun q => q.elim h.1 h.2), List.append_nil, hP]
theorem encF_yes {t : Tok} (hz : (⟨((ch x).flatMap encC).toArray⟩ : Str) = z) (hz0 : z.length ≠ 0) (hP : chp ps = ((Txt.lines z).map fun a => encLine k e (ch a)).flatten) (h : (PySem.Builtin.Str.occurrences (Str.ofString "\r\n") (Txt.item z (-1)) 0 (Str.ofString "\r\n").length 1).isEmpty = false) :
    joinL e (chp (ps ++ [(Str.ofString "", t)])) = encF k e (ch x) := by
  rw [crlf_in hz0, decide_eq_false_iff_not] at h
  have hc : ch z = (ch x).flatMap encC := by rw [← hz]
  rw [← ch_len, hc] at h
  unfold encF encPieces
  have e1 : ch (Str.ofString "") = [] := by decide +kernel
  rw [hz, if_pos, ← hP]
  · simp [chp, e1]
  · by_cases q : ((ch x).flatMap encC).getD (((ch x).flatMap encC).length - 1) 0 = 13
    · exact .inl q
    · exact .inr (Decidable.byContradiction fun q2 => h ⟨q, q2⟩)
end
end Mine
-- text BMb
namespace Mine
open PySem.Calls PySem.Builtin PySem.Builtin.ObjectAttr
set_option maxRecDepth 100000
namespace FF
theorem slot_list_ga : Slot "list" "__getattribute__" "list.__getattribute__" :=
  .of (owner := "list") (n := "__getattribute__") (by rw [typeLookup_type, builtinLookup_eq_fast]; kernel_rfl) (by decide +kernel) (by decide +kernel) (by decide +kernel) (by first | exact .inl (by decide +kernel) | exact .inr (by decide +kernel)) (by rw [isSubtype_type]; kernel_rfl)
theorem entry_list_ga : entryFor table "list.__getattribute__" = some Builtin.«object.__getattribute__» := entryFor_alias (id' := "object.__getattribute__") (by rw [fastTable_eq_tree]; kernel_rfl) (by first | rfl | decide +kernel) (by decide +kernel) (by rw [fastTable_eq_tree]; kernel_rfl)
theorem args_list_ga (a b : Value) : argsOk "list.__getattribute__" ⟨[a, b], []⟩ := by unfold argsOk; kernel_rfl
theorem slot_md_get : Slot "method_descriptor" "__get__" "method_descriptor.__get__" :=
  .of (owner := "method_descriptor") (n := "__get__") (by rw [typeLookup_type, builtinLookup_eq_fast]; kernel_rfl) (by decide +kernel) (by decide +kernel) (by decide +kernel) (by first | exact .inl (by decide +kernel) | exact .inr (by decide +kernel)) (by rw [isSubtype_type]; kernel_rfl)
theorem entry_md_get : entryFor table "method_descriptor.__get__" = some Builtin.«method_descriptor.__get__» := by first | exact entryFor_of_fast (by kernel_rfl) | exact entryFor_of_tree (by kernel_rfl)
theorem args_md_get (a b c : Value) : argsOk "method_descriptor.__get__" ⟨[a, b, c], []⟩ := by unfold argsOk; kernel_rfl
theorem type_append : typeOf (.builtin "list.append") = pure (.type "method_descriptor") := by show builtinType _ = _; rw [builtinType_eq_fast]; kernel_rfl
theorem look_append : typeLookup (.type "list") "append" = pure (some (.builtin "list.append")) := by rw [typeLookup_type, builtinLookup_eq_fast]; kernel_rfl
theorem sub_list : isSubtype (.type "list") (.type "list") = pure true := by rw [isSubtype_type]; kernel_rfl
theorem md_set : typeLookup (.type "method_descriptor") "__set__" = pure none := by rw [typeLookup_type, builtinLookup_eq_fast]; kernel_rfl
theorem md_del : typeLookup (.type "method_descriptor") "__delete__" = pure none := by rw [typeLookup_type, builtinLookup_eq_fast]; kernel_rfl
noncomputable def sigA : Manifest.Signature := ⟨.oneArg, "list.append", "append", .self, [⟨"object", .posOnly, true⟩]⟩
theorem sig_append : Manifest.signature? "list.append" = some sigA := by kernel_rfl
theorem kind_append : builtinKind "list.append" = some .method := by kernel_rfl
theorem list_not_module : isSubtype (.type "list") (.type "module") = pure false := by rw [isSubtype_type]; kernel_rfl
theorem check_append (a b : Value) : Bind.checkArgs "list.append" { sigA with full := s!"{Bind.lastOf "list"}.{Bind.lastOf "list.append"}" } ⟨[a, b], []⟩ = pure () := by kernel_rfl
end FF
noncomputable def appObj (l : Addr) : Obj := { cls := .type "builtin_function_or_method", data := .fields #[.builtin "list.append", .ref l] }
section
variable {prog : Program} {w : World} {A : Around} {E : Value → Shared → Prop}  {h : Heap} {g : Array GenState} {d : Drawn} {t : Nat} {os : OsState} {l : Addr} {items : Array Value} {n : Nat}
theorem wp_md_get {Q : PySem.Fin → Shared → Prop} (hl : h.get? l = some (listOf items n)) (hq : Q (.done (.ret (.ref h.objs.size))) ⟨h.push (appObj l), g, d, t, os⟩) :
    wpAny (model prog w) A (Builtin.«method_descriptor.__get__» ⟨[.builtin "list.append", .ref l, .type "list"], []⟩) Q E ⟨h, g, d, t, os⟩ := by
  unfold Builtin.«method_descriptor.__get__»
  repeat (any_goals (first | assumption | wp_step))
  have e1 : ".".intercalate ("list.append".cutAt '.').dropLast = "list" := by decide +kernel
  refine wpAny_of_eq (a := true) (by rw [e1]; exact FF.sub_list) ?_
  rw [if_neg (by decide)]
  refine wpAny_pure ?_
  refine wpAny_bind (wpAny_newObj_type ?_ ?_)
  · exact wpAny_pure hq
  · exact Nat.le_of_ble_eq_true rfl
theorem wp_list_ga {u : Tok} {Q : PySem.Fin → Shared → Prop} (hl : h.get? l = some (listOf items n)) (hq : Q (.done (.ret (.ref h.objs.size))) ⟨h.push (appObj l), g, d, t, os⟩) :
    wpAny (model prog w) A (Builtin.«object.__getattribute__» ⟨[.ref l, .str "append" u], []⟩) Q E ⟨h, g, d, t, os⟩ := by
  have hT : (⟨h, g, d, t, os⟩ : Shared).TypeIs (.ref l) "list" := ⟨_, hl, rfl⟩
  have hM : (⟨h, g, d, t, os⟩ : Shared).TypeIs (.builtin "list.append") "method_descriptor" := FF.type_append
  unfold Builtin.«object.__getattribute__»
  refine wpAny_bind (wpAny_of_eq (a := ((.ref l : Value), [(.str "append" u : Value)])) (by first | rfl | kernel_rfl) ?_)
  dsimp only
  refine wpAny_bind (wpAny_of_eq (a := ("append" : PySem.Str)) (by first | rfl | kernel_rfl) ?_)
  refine wpAny_bind (wpAny_typeOf hT ?_)
  refine wpAny_bind ?_
  unfold find
  refine wpAny_bind (wpAny_of_eq FF.look_append ?_)
  refine wpAny_bind (wpAny_specialOf hM FF.slot_md_get.lookup ?_)
  refine wpAny_bind ?_
  unfold dataDescriptor? takesStores
  refine wpAny_bind (wpAny_bind (wpAny_specialOf hM FF.md_set ?_))
  rw [if_neg (by decide)]
  refine wpAny_bind (wpAny_specialOf hM FF.md_del ?_)
  refine wpAny_pure ?_
  rw [if_neg (by decide)]
  refine wpAny_pure ?_
  dsimp only
  unfold ownThenClass inOwnDict
  refine wpAny_bind (wpAny_bind ?_)
  unfold ObjectAttr.ownDict loadHead
  refine wpAny_bind (wpAny_loadPart hl ?_)
  unfold instanceDict
  refine wpAny_bind (wpAny_loadPart hl ?_)
  show wpAny _ _ (pure none) _ _ _
  refine wpAny_pure ?_
  show wpAny _ _ (pure none) _ _ _
  refine wpAny_pure ?_
  dsimp only
  unfold copiedAttributeGuard
  refine wpAny_bind ?_
  rw [if_neg (by decide +kernel)]
  refine wpAny_pure ?_
  unfold byTheClass
  refine wpAny_bind (wpAny_rule (wpAny_pure ?_))
  dsimp only
  unfold bindTo
  show wpAny _ _ (holding [.builtin "list.append"] (call (.builtin "method_descriptor.__get__") [.builtin "list.append", .ref l, .type "list"]) >>= fun v => ret v) _ _ _
  refine wpAny_bind (wpAny_holding (wpAny_call_entry FF.slot_md_get hM FF.entry_md_get (wp_md_get hl ⟨_, rfl, ?_⟩) (FF.args_md_get _ _ _)))
  exact wpAny_pure hq
theorem getAttr_append {Q : Value → Shared → Prop} {ex : Bool} (hl : h.get? l = some (listOf items n)) (hq : Q (.ref h.objs.size) ⟨h.push (appObj l), g, d, t + 1, os⟩) :
    wpAny (model prog w) A (getAttr (.ref l) "append" ex) Q E ⟨h, g, d, t, os⟩ := by
  have hT : ∀ t', (⟨h, g, d, t', os⟩ : Shared).TypeIs (.ref l) "list" := fun _ => ⟨_, hl, rfl⟩
  unfold getAttr getAttrBy
  refine wpAny_bind (wpAny_mkText (wpAny_holding (wpAny_bind (wpAny_typeOf (hT _) (wpAny_bind (wpAny_of_eq FF.slot_list_ga.lookup ?_))))))
  show wpAny _ _ (getAttrByItsOwn (.ref l) (.str "append" t) (.type "list") (.builtin "list.__getattribute__") true ex) _ _ _
  unfold getAttrByItsOwn hookBefore callGetattribute boundAndCalled
  refine wpAny_bind (wpAny_of_eq (show (if onTheHeap (.type "list") then typeLookup (.type "list") "__getattr__" else pure none) = pure none from rfl) ?_)
  refine wpAny_bind (wpAny_attempt (wpAny_holding ?_))
  have e1 : (ex && onTheHeap (.builtin "list.__getattribute__")) = false := by cases ex <;> rfl
  rw [e1]
  show wpAny _ _ (bindSpecial (.builtin "list.__getattribute__") (.ref l) >>= _) _ _ _
  refine wpAny_bind (wpAny_of_eq (FF.slot_list_ga.bind _) ?_)
  refine wpAny_call_entry FF.slot_list_ga (hT _) FF.entry_list_ga (wp_list_ga hl ⟨_, rfl, ?_⟩) (FF.args_list_ga _ _)
  exact wpAny_pure hq
theorem wp_check_append {l : Addr} {v : Value} {Q : Unit → Shared → Prop} {s : Shared} (hlo : s.heap.get? l = some (listOf items n)) (hq : Q () s) : wpAny (model prog w) A (checkBoundCall "list.append" ⟨[.ref l, v], []⟩) Q E s := by
  have hT : s.TypeIs (.ref l) "list" := ⟨_, hlo, rfl⟩
  unfold checkBoundCall
  rw [FF.sig_append, FF.kind_append]
  dsimp only
  rw [if_neg (by decide)]
  refine wpAny_bind ?_
  unfold isInstance
  refine wpAny_bind (wpAny_typeOf hT (wpAny_of_eq FF.list_not_module ?_))
  rw [if_neg (by decide +kernel)]
  refine wpAny_bind ?_
  unfold isType loadHead
  refine wpAny_bind (wpAny_loadPart hlo ?_)
  refine wpAny_pure ?_
  show wpAny _ _ (do let cls ← typeOf (.ref l); _) _ _ _
  refine wpAny_bind (wpAny_typeOf hT ?_)
  dsimp only
  exact wpAny_of_eq (FF.check_append _ _) hq
theorem call_append_bound {q : Addr} {v : Value} {s : Shared} {Q : Value → Shared → Prop} {its : Array Value} (hqo : s.heap.get? q = some (appObj l)) (ho : s.heap.get? l = some (listOf its n)) (hsz : its.size ≤ sizeLine)
    (hq : ∀ h', Heap.SameBut l s.heap h' → h'.get? l = some (listOf (its.push v) (n + 1)) → Q .none { s with heap := h' }) :
    wpAny (model prog w) A (call (.ref q) [v]) Q E s := by
  refine wpAny_call (codeAny_of_tree ?_)
  show wpAny _ _ (callAny (.ref q) _) _ _ _
  unfold callAny
  refine wpAny_bind (wpAny_load hqo ?_)
  show wpAny _ _ (do checkBoundCall "list.append" ⟨[.ref l, v], []⟩; again (.builtin "list.append" ⟨[.ref l, v], []⟩)) _ _ _
  refine wpAny_bind (wp_check_append ho ?_)
  refine wpAny_pure ⟨plainId_quiet slot_list_append.plain _, codeAny_builtin entry_list_append ?_⟩
  show wpAny _ _ (updateSeq l (·.push v) >>= fun _ => ret .none) _ _ s
  refine wpAny_bind ?_
  refine wpAny_updateSeq ho rfl (wpAny_pure (hq _ (Heap.SameBut.update ..) ?_))
  rw [Heap.get?_update_self _ ho (by rw [show (listOf its n).mapSeq (·.push v) = _ from mapSeq_push _ _ _ _ _]; rfl), show (listOf its n).mapSeq (·.push v) = _ from mapSeq_push _ _ _ _ _]
end
section
variable {prog : Program} {w : World} {A : Around} {E : Value → Shared → Prop} {s : Shared} {h₀ : Heap} {L l q : Addr} {m : Str → Option Value} {news news' : List (Addr × Obj)} {its : Array Value} {n : Nat} {Q : Value → Shared → Prop}
theorem getAttr_append_N {ex : Bool} (F : Fr h₀ L s.heap m) (N : News h₀ L s.heap news) (hl : (l, listOf its n) ∈ news)
    (h : ∀ q h' k, Fr h₀ L h' m → News h₀ L h' ((q, appObj l) :: news) → (∀ p ∈ news, p.1 < q) → Q (.ref q) { s with heap := h', toks := k }) : wpAny (model prog w) A (getAttr (.ref l) "append" ex) Q E s := by
  obtain ⟨hh, g, d, t, os⟩ := s
  exact getAttr_append (N _ hl).1 (h hh.objs.size _ _ (F.push _) (N.push F _) fun p hp => Heap.lt_size (N p hp).1)
theorem call_append_N {v : Value} (F : Fr h₀ L s.heap m) (N : News h₀ L s.heap news) (hq : (q, appObj l) ∈ news) (U : Upd l (listOf its n) (listOf (its.push v) (n + 1)) news news') (hsz : its.size ≤ sizeLine)
    (h : ∀ h', Fr h₀ L h' m → News h₀ L h' news' → Q .none { s with heap := h' }) : wpAny (model prog w) A (call (.ref q) [v]) Q E s := by
  have hqo := (N _ hq).1
  obtain ⟨pre, post, rfl, rfl, a, b⟩ := U.split
  have z := N (l, listOf its n) (List.mem_append.mpr (.inr (.head _)))
  exact call_append_bound hqo z.1 hsz fun h' hs ho' => h h' (F.change hs z.2.1 z.2.2) (news_set N a b hs ho')
end
noncomputable def AppP (q l : Addr) (h : Heap) : Prop := h.get? q = some (appObj l)
theorem appP {h₀ : Heap} {L q l : Addr} {h : Heap} {news : List (Addr × Obj)} (N : News h₀ L h news) (hq : (q, appObj l) ∈ news) : AppP q l h := (N _ hq).1
theorem keeps_A {M : Model} {q l : Addr} (h : Heap) (X : AppP q l h) : ∃ k, (k = Keeper.frame ∨ k = Keeper.machine ∨ k = Keeper.boundFrame) ∧ Looks M h (keeperOf (.ref q)) k :=
  ⟨.machine, .inr (.inl rfl), (Looks.ld (part := none) X).andThen .now⟩
theorem callWith_A {M : Model} {A : Around} {E : Value → Shared → Prop} {s : Shared} {env : Env} {pos : Pos} {first : List Value} {Q : Value → Shared → Prop} {h₀ : Heap} {L : Addr} {news : List (Addr × Obj)} {q l : Addr} {e : Expr} {rest : List Expr}
    (_N : News h₀ L s.heap news) (_q : (q, appObj l) ∈ news) (h : wpAny M A (spliced (backTo pos (starEach (e :: rest) env))) (fun vs s₁ => AppP q l s₁.heap ∧ wpAny M A (call (.ref q) (first ++ vs)) Q E s₁) E s)
    (he : starEach (e :: rest) env = (false, eval e env) :: starEach rest env := by rfl) (hplain : (backTo pos (starEach rest env)).any (·.1) = false := by rfl) :
    wpAny M A (callWith pos (.ref q) first (backTo pos (starEach (e :: rest) env)) []) Q E s := by
  rw [he] at h ⊢
  exact callWith_of (by show ((false || (backTo pos (starEach rest env)).any (·.1)) || false) = false; rw [hplain]; rfl) keeps_A (evalArgs_plain h)
end Mine
-- text E1b
namespace Mine
open PySem.Calls PySem.Spec
set_option maxRecDepth 100000
set_option maxHeartbeats 8000000
section
variable {w : World} {p : Program} {loose : List Str} {mean : ExcName → Option Value} {mg mb : Str → Option Value}
section
local macro_rules | `(tactic| walk_at $k:str) => do
  if ["exec While Compare cons nil", "pyIter ref", "KswEnd", "call ref", "Turn", "call builtin:str.translate", "call builtin:str.join"].contains k.getString then `(tactic| refine Stop.out ?_) else Lean.Macro.throwUnsupported
local macro_rules | `(tactic| walk_at "call ref") => `(tactic| ((k_dflt (refine' call_append_N ?k1 ?k2 ?k3 ?k4 ?z ?_; (case k1 => k_asm); (case k2 => k_asm); (case k3 => k_mem); (case k4 => k_upd); (case z => size_fits))); intro h' F' N'; (try rw [push_strs] at N'); (try dsimp only)))
local macro_rules | `(tactic| walk_at "getMethod str") => `(tactic| with_reducible refine gm_translate ?_)
local macro_rules | `(tactic| walk_at "getAttr ref") => `(tactic| ((k_dflt (refine' getAttr_append_N ?k1 ?k2 ?k3 ?_; (case k1 => k_asm); (case k2 => k_asm); (case k3 => k_mem))); intro q' h' k' F' N' l1; (try k_lt l1); (try dsimp only)))
local macro_rules | `(tactic| walk_at "callWith ref") => `(tactic| (k_here; k_dflt (refine' callWith_A ?k1 ?k2 ?_; (case k1 => k_asm); (case k2 => k_mem); k_whole)))
local macro_rules | `(tactic| walk_at "And") => `(tactic| ((with_reducible show AppP _ _ _ ∧ _); (k_dflt (refine' And.intro (appP ?k1 ?k2) ?_; (case k1 => k_asm); (case k2 => k_mem))); try dsimp only [List.nil_append, List.cons_append]))
local macro_rules | `(tactic| walk_at "storeName") => `(tactic| (dsimp only; walk_at "storeName"))
theorem encode_cl (x y : Str) (m : Int) (t u v : Tok) :
   Cl PySem.Challenge.rw_ny0161_02.row.prog w (Mine.hdK w.params) p loose mean mg mb 57 1 (fun _ => x.length ≠ 0 ∧ x.length ≤ 10000 ∧ y.length ≤ 10 ∧ 4 ≤ m ∧ m ≤ 100 ∧ (∀ c ∈ ch x, c < 256)) [.str x t, .int m u, .str y v] (fun v nw => nw = [] ∧ ∃ z t', v = .str z t' ∧ ch z = encF (m - 1).toNat (ch y) (ch x)) := by
  k_fill
  refine Cl.intro (binds := [(Str.ofString "body", .str x t), (Str.ofString "maxlinelen", .int m u), (Str.ofString "eol", .str y v)]) (by k_is) (by k_is) (fun s X => binds_K X rfl (by k_is) rfl rfl rfl) (locs rfl) rfl rfl rfl (by decide) ?_
  intro dp un gd outer A₀ base g L' s B F N X T hpre hdp hun
  obtain ⟨hx0, hx, hy, hm1, hm2, hc⟩ := hpre
  try k_fold
  k_steps
  · unfold Stop
    obtain ⟨items, hl46, hit⟩ := isList46 X
    have hfl := flatC_len (ch x)
    rw [ch_len] at hfl
    have hflat : ((ch x).flatMap encC).length ≤ 30000 := by lia
    have hne : ((ch x).flatMap encC).length ≠ 0 := by lia
    refine call_translate encC (stays_list (by assumption : Fr _ _ _ _).keep hl46) hx0 hc (by lia) hit ?_
    intro k9 t9
    have hz : (⟨((ch x).flatMap encC).toArray⟩ : Str).length = ((ch x).flatMap encC).length := by simp [PySem.Str.length]
    generalize hzz : (⟨((ch x).flatMap encC).toArray⟩ : Str) = z at hz ⊢
    have hz1 : z.length ≤ 30000 := by lia
    k_steps
    unfold Stop
    rename_i tsb _ hsb _ _ l' _ _ _ _ q' _ _ hlq hA FA NA ls hB kB hls hsa hshort hIs FB NB
    have hla : @LT.lt Nat _ q' hA.objs.size := Heap.lt_size (NA _ (.head _)).1
    have hlb : @LT.lt Nat _ l' hA.objs.size := Heap.lt_size (NA _ (.tail _ (.head _))).1
    rw [hls] at hshort
    dsimp only at NB hIs
    clear hIs NA FA
    generalize hA.objs.size = la at hla hlb NB ⊢
    have hm3 : (m - 1).toNat + 1 = m.toNat := by lia
    refine' for_led (fun c : List (Str × Tok) × Nat => [(la, listOf (strValues ls).toArray 0), (q', appObj l'), (l', listOf (strValues c.1).toArray c.2)]) (fun _ => []) ["start", "laststart", "stop", "room", "q"]
      (fun i c => c.1.map (fun p => ch p.1) = (((Txt.lines z).take i).map fun a => encLine (m - 1).toNat (ch y) (ch a)).flatten) ([], 0) rfl (fun _ => List.Mem.head _) FB NB (List.forall_mem_nil _) rfl ?turn ?done
    case turn =>
      intro i v c u' h tk own hv hoff hP F' N'
      obtain ⟨a, ta, rfl, ha⟩ := strs_at hv
      dsimp only [kstB] at F' N' hoff
      simp only [List.map_cons, List.map_nil] at hoff
      rw [hls] at ha
      have hal : a.length ≤ 30000 := Nat.le_trans (hshort a (List.mem_of_getElem? ha)) hz1
      have hcl : c.1.length ≤ 30001 := by
        have h1 := congrArg List.length hP
        have h2 := pre_len (m - 1).toNat (ch y) z i
        rw [List.length_map] at h1
        lia
      simp only [List.cons_append, List.nil_append] at N'
      refine post_var fun TT hTT => ?_
      k_steps
      unfold Stop
      refine' ksw_while (fun d : Int × Tok × List (Str × Tok) × Nat => (la, listOf (strValues ls).toArray 0) :: (q', appObj l') :: (l', listOf (strValues d.2.2.1).toArray d.2.2.2) :: own)
        (fun d => [(Str.ofString "start", Value.int d.1 d.2.1)]) (fun _ => True) ["start", "stop"]
        (fun d => ∃ k0 : Nat, d.1 = k0 ∧ k0 ≤ (ch a).length ∧ chp d.2.2.1 ++ (encW (m - 1).toNat ((ch a).drop k0)).1 = chp c.1 ++ (encW (m - 1).toNat (ch a)).1 ∧ (encW (m - 1).toNat ((ch a).drop k0)).2 = (encW (m - 1).toNat (ch a)).2)
        (fun d => (ch a).length - d.1.toNat) (0, ?t1, c.1, c.2) (by assumption) (by assumption) trivial ?hk ?hp ?turn
      case hk => (refine List.forall_mem_cons.mpr ⟨?_, List.forall_mem_nil _⟩; dsimp only; exact rfl)
      case hp => exact ⟨0, rfl, Nat.zero_le _, rfl, rfl⟩
      case turn =>
        intro d u2 h2 tk2 _ hd F2 N2
        obtain ⟨i1, i2, pcs, np⟩ := d
        dsimp only [kstB] at hd F2 N2
        obtain ⟨k0, rfl, hk0, hd1, hd2⟩ := hd
        have hkl := ch_len a
        have hpl : pcs.length ≤ 70000 := by
          have h1 := congrArg List.length hd1
          have h2 := encW_len (m - 1).toNat (ch a)
          simp only [List.length_append, chp, List.length_map] at h1
          lia
        have hpl2 : (strValues pcs).toArray.size ≤ 70000 := by simp [strValues]; exact hpl
        k_steps
        all_goals try unfold Stop
        · (((refine ksw_end (_, _, _, _) (by assumption) (by assumption) (by (dsimp only; exact fun _ hp => hp)) trivial (by (refine List.forall_mem_cons.mpr ⟨?_, List.forall_mem_nil _⟩; (dsimp only; exact rfl))) (by (intro z h2 h3; (try dsimp only); repeat (first | with_reducible rfl | refine (if_neg (by first | exact Bool.eq_false_iff.mp h3 | exact off_sub h3 (by decide) | exact off_stored h3 rfl | exact h2 _ (.head _) | exact h2 _ (.tail _ (.head _)) | exact h2 _ (.tail _ (.tail _ (.head _))) | exact h2 _ (.tail _ (.tail _ (.tail _ (.head _)))))).trans ?_))) ?hp ?hm)))
          case hp => exact ew1 hm1 (by with_reducible assumption) (by with_reducible assumption) hd1 hd2
          case hm => (dsimp only; lia)
        · (((refine ksw_end (_, _, _, _) (by assumption) (by assumption) (by (dsimp only; exact fun _ hp => hp)) trivial (by (refine List.forall_mem_cons.mpr ⟨?_, List.forall_mem_nil _⟩; (dsimp only; exact rfl))) (by (intro z h2 h3; (try dsimp only); repeat (first | with_reducible rfl | refine (if_neg (by first | exact Bool.eq_false_iff.mp h3 | exact off_sub h3 (by decide) | exact off_stored h3 rfl | exact h2 _ (.head _) | exact h2 _ (.tail _ (.head _)) | exact h2 _ (.tail _ (.tail _ (.head _))) | exact h2 _ (.tail _ (.tail _ (.tail _ (.head _)))))).trans ?_))) ?hp ?hm)))
          case hp => exact ew2 hm1 (by with_reducible assumption) (by with_reducible assumption) (by with_reducible assumption) hd1 hd2
          case hm => (dsimp only; lia)
        · (((refine ksw_end (_, _, _, _) (by assumption) (by assumption) (by (dsimp only; exact fun _ hp => hp)) trivial (by (refine List.forall_mem_cons.mpr ⟨?_, List.forall_mem_nil _⟩; (dsimp only; exact rfl))) (by (intro z h2 h3; (try dsimp only); repeat (first | with_reducible rfl | refine (if_neg (by first | exact Bool.eq_false_iff.mp h3 | exact off_sub h3 (by decide) | exact off_stored h3 rfl | exact h2 _ (.head _) | exact h2 _ (.tail _ (.head _)) | exact h2 _ (.tail _ (.tail _ (.head _))) | exact h2 _ (.tail _ (.tail _ (.tail _ (.head _)))))).trans ?_))) ?hp ?hm)))
          case hp => exact ew3 hm1 (by with_reducible assumption) (by with_reducible assumption) (by with_reducible assumption) hd1 hd2
          case hm => (dsimp only; lia)
        · obtain ⟨g1, g2, g3⟩ := ew0 (by with_reducible assumption) hm1 hk0 hd1 hd2
          subst hTT
          (((refine turn_next (_, _) (by assumption) (by assumption) (by (dsimp only; k_allIn)) (by (intro p hp; k_ownIn)) (by (simp only [List.map_cons, List.map_nil]; assumption)) (List.forall_mem_nil _) (by ((intro z h1 h2 h3; (try dsimp only); repeat (first | with_reducible rfl | refine (if_neg (by first | exact h1 | exact Bool.eq_false_iff.mp h3 | exact off_sub h3 (by decide) | exact off_stored h3 rfl | exact h2 _ (.head _) | exact h2 _ (.tail _ (.head _)) | exact h2 _ (.tail _ (.tail _ (.head _))) | exact h2 _ (.tail _ (.tail _ (.tail _ (.head _)))))).trans ?_)))) ?_)))
          exact line_end hP ha g1 (end_plain1 hk0 g2 (by with_reducible assumption) (by with_reducible assumption))
        · obtain ⟨g1, g2, g3⟩ := ew0 (by with_reducible assumption) hm1 hk0 hd1 hd2
          have ha0 : (a.length : Int) ≠ 0 := by with_reducible assumption
          have hb := last_blank ha0 (by with_reducible assumption)
          rw [item_last (by lia)]
          refine (quote_cl _ _).use B (by k_asm) X (by k_asm) T rfl (by rw [← hkl]; lia) (by lia) (by lia) ?_
          rintro v9 nw h9 tk9 ⟨rfl, t9', rfl⟩ F9 N9 _ _
          rw [List.nil_append] at N9
          have hone : (⟨#[61, hexDig ((ch a).getD (a.length - 1) 0 / 16), hexDig ((ch a).getD (a.length - 1) 0 % 16)]⟩ : Str).length ≤ 3 := Nat.le_refl _
          dsimp only
          k_steps
          subst hTT
          (((refine turn_next (_, _) (by assumption) (by assumption) (by (dsimp only; k_allIn)) (by (intro p hp; k_ownIn)) (by (simp only [List.map_cons, List.map_nil]; assumption)) (List.forall_mem_nil _) (by ((intro z h1 h2 h3; (try dsimp only); repeat (first | with_reducible rfl | refine (if_neg (by first | exact h1 | exact Bool.eq_false_iff.mp h3 | exact off_sub h3 (by decide) | exact off_stored h3 rfl | exact h2 _ (.head _) | exact h2 _ (.tail _ (.head _)) | exact h2 _ (.tail _ (.tail _ (.head _))) | exact h2 _ (.tail _ (.tail _ (.tail _ (.head _)))))).trans ?_)))) ?_)))
          exact line_end hP ha g1 (end_3 hk0 g2 ha0 hm1 hb (by with_reducible assumption) rfl)
        · obtain ⟨g1, g2, g3⟩ := ew0 (by with_reducible assumption) hm1 hk0 hd1 hd2
          have ha0 : (a.length : Int) ≠ 0 := by with_reducible assumption
          have hb := last_blank ha0 (by with_reducible assumption)
          subst hTT
          (((refine turn_next (_, _) (by assumption) (by assumption) (by (dsimp only; k_allIn)) (by (intro p hp; k_ownIn)) (by (simp only [List.map_cons, List.map_nil]; assumption)) (List.forall_mem_nil _) (by ((intro z h1 h2 h3; (try dsimp only); repeat (first | with_reducible rfl | refine (if_neg (by first | exact h1 | exact Bool.eq_false_iff.mp h3 | exact off_sub h3 (by decide) | exact off_stored h3 rfl | exact h2 _ (.head _) | exact h2 _ (.tail _ (.head _)) | exact h2 _ (.tail _ (.tail _ (.head _))) | exact h2 _ (.tail _ (.tail _ (.tail _ (.head _)))))).trans ?_)))) ?_)))
          exact line_end hP ha g1 (end_2 hk0 g2 ha0 hm1 hb (by with_reducible assumption))
        · obtain ⟨g1, g2, g3⟩ := ew0 (by with_reducible assumption) hm1 hk0 hd1 hd2
          have ha0 : (a.length : Int) ≠ 0 := by with_reducible assumption
          have hb := last_blank ha0 (by with_reducible assumption)
          rw [item_last (by lia)]
          refine (quote_cl _ _).use B (by k_asm) X (by k_asm) T rfl (by rw [← hkl]; lia) (by lia) (by lia) ?_
          rintro v9 nw h9 tk9 ⟨rfl, t9', rfl⟩ F9 N9 _ _
          rw [List.nil_append] at N9
          have hone : (⟨#[61, hexDig ((ch a).getD (a.length - 1) 0 / 16), hexDig ((ch a).getD (a.length - 1) 0 % 16)]⟩ : Str).length ≤ 3 := Nat.le_refl _
          dsimp only
          k_steps
          subst hTT
          (((refine turn_next (_, _) (by assumption) (by assumption) (by (dsimp only; k_allIn)) (by (intro p hp; k_ownIn)) (by (simp only [List.map_cons, List.map_nil]; assumption)) (List.forall_mem_nil _) (by ((intro z h1 h2 h3; (try dsimp only); repeat (first | with_reducible rfl | refine (if_neg (by first | exact h1 | exact Bool.eq_false_iff.mp h3 | exact off_sub h3 (by decide) | exact off_stored h3 rfl | exact h2 _ (.head _) | exact h2 _ (.tail _ (.head _)) | exact h2 _ (.tail _ (.tail _ (.head _))) | exact h2 _ (.tail _ (.tail _ (.tail _ (.head _)))))).trans ?_)))) ?_)))
          exact line_end hP ha g1 (end_1 hk0 g2 ha0 hm1 hb (by with_reducible assumption) (by with_reducible assumption) (by with_reducible assumption) rfl)
        · obtain ⟨g1, g2, g3⟩ := ew0 (by with_reducible assumption) hm1 hk0 hd1 hd2
          subst hTT
          (((refine turn_next (_, _) (by assumption) (by assumption) (by (dsimp only; k_allIn)) (by (intro p hp; k_ownIn)) (by (simp only [List.map_cons, List.map_nil]; assumption)) (List.forall_mem_nil _) (by ((intro z h1 h2 h3; (try dsimp only); repeat (first | with_reducible rfl | refine (if_neg (by first | exact h1 | exact Bool.eq_false_iff.mp h3 | exact off_sub h3 (by decide) | exact off_stored h3 rfl | exact h2 _ (.head _) | exact h2 _ (.tail _ (.head _)) | exact h2 _ (.tail _ (.tail _ (.head _))) | exact h2 _ (.tail _ (.tail _ (.tail _ (.head _)))))).trans ?_)))) ?_)))
          exact line_end hP ha g1 (end_plain0 hk0 g2 (by with_reducible assumption))
    case done =>
      intro c u2 h2 tk2 hP F2 N2
      dsimp only [kstB] at F2 N2
      have hlen : (strValues ls).length = (Txt.lines z).length := by rw [← hls]; simp [strValues]
      rw [hlen, List.take_length] at hP
      have hcl : c.1.length ≤ 30001 := by
        have h1 := congrArg List.length hP
        have h2 := pre_len (m - 1).toNat (ch y) z (Txt.lines z).length
        rw [List.take_length] at h2
        rw [List.length_map] at h1
        lia
      have hcl2 : (strValues c.1).toArray.size ≤ 30001 := by simp [strValues]; exact hcl
      have hpc : ∀ p ∈ chp c.1, p.length ≤ 200 := by
        intro p hp
        rw [show chp c.1 = _ from hP] at hp
        have := pieces_len (m - 1).toNat (ch y) (by lia) (Txt.lines z) p hp
        rw [ch_len] at this
        lia
      have hz0 : z.length ≠ 0 := by lia
      k_steps
      all_goals unfold Stop
      · refine call_join_N (by k_asm) (by k_mem) (by lia) hpc hy ?_
        intro z9 t9 k9 h9
        refine ⟨_, _, _, _, rfl, ⟨rfl, _, _, rfl, ?_⟩, by k_asm, News.nil⟩
        rw [h9]
        exact encF_no hzz hz0 hP (by with_reducible assumption)
      · refine call_join_N (by k_asm) (by k_mem) (by simp only [List.length_append, List.length_cons, List.length_nil]; lia) ?_ hy ?_
        · intro p hp
          simp only [chp, List.map_append, List.mem_append, List.map_cons, List.map_nil, List.mem_singleton] at hp
          rcases hp with hp | rfl
          · exact hpc p hp
          · have e1 : ch (Str.ofString "") = [] := by decide +kernel
            rw [e1]; exact Nat.zero_le _
        · intro z9 t9 k9 h9
          refine ⟨_, _, _, _, rfl, ⟨rfl, _, _, rfl, ?_⟩, by k_asm, News.nil⟩
          rw [h9]
          exact encF_yes hzz hz0 hP (by with_reducible assumption)
  · exfalso; lia
end
end
end Mine
-- text NXb
namespace Mine
open PySem.Calls PySem.Builtin
set_option maxRecDepth 100000
noncomputable def itObj (l : Addr) (i : Nat) : Obj := { cls := .type "list_iterator", data := .fields #[.ref l, .int i 0] }
noncomputable def itEnd (i : Nat) : Obj := { cls := .type "list_iterator", data := .fields #[.none, .int i 0] }
section
variable {prog : Program} {w : World} {A : Around} {E : Value → Shared → Prop} {s : Shared} {it l : Addr} {items : Array Value} {i n : Nat} {Q : Value → Shared → Prop}
theorem wp_special_item {x : Value} {Q : Option Value → Shared → Prop} (ho : s.heap.get? it = some (itObj l i)) (hl : s.heap.get? l = some (listOf items n)) (hx : items[i]? = some x)
    (hQ : ∀ h', Heap.SameBut it s.heap h' → h'.get? it = some (itObj l (i + 1)) → Q (some x) { s with heap := h' }) :
    wpAny (model prog w) A (callSpecial? (.ref it) (PySem.Str.ofString "__next__")) Q E s := by
  have hT : s.TypeIs (.ref it) "list_iterator" := ⟨_, ho, rfl⟩
  refine wpAny_callSpecial?_slot (name := PySem.Str.ofString "__next__") hT slot_listiter_next (wpAny_call_entry slot_listiter_next hT entry_listiter_next ?_ (args_listiter_next _))
  show wpAny _ _ (field (.ref it) 0 >>= _) _ _ s
  refine wpAny_bind (wpAny_field ho rfl (x := .ref l) rfl ?_)
  show wpAny _ _ (if (Value.ref l == Value.none) = true then _ else _) _ _ s
  rw [if_neg (show ¬ ((Value.ref l == Value.none) = true) from Bool.false_ne_true)]
  show wpAny _ _ (field (.ref it) 1 >>= _) _ _ s
  refine wpAny_bind (wpAny_field ho rfl (x := .int i 0) rfl ?_)
  show wpAny _ _ (seqItems? (.ref l) >>= _) _ _ s
  refine wpAny_bind (wpAny_seqItems hl rfl ?_)
  simp only [Int.toNat_natCast, hx]
  refine wpAny_bind (wpAny_setField ho rfl (by simp) (wpAny_pure ⟨x, rfl, hQ _ (Heap.SameBut.update ..) ?_⟩))
  exact Heap.get?_update_self _ ho (Obj.isFreed_of_fields (Obj.data_mapFields rfl _))
theorem wp_special_end {Q : Option Value → Shared → Prop} (hh : A.handled = none) (ho : s.heap.get? it = some (itObj l i)) (hl : s.heap.get? l = some (listOf items n)) (hx : items[i]? = none)
    (hE : ∀ h₁ h' e, Heap.SameBut it s.heap h₁ → h₁.get? it = some (itEnd i) → Heap.NewExc h₁ h' e "StopIteration" → E (.ref e) { s with heap := h' }) :
    wpAny (model prog w) A (callSpecial? (.ref it) (PySem.Str.ofString "__next__")) Q E s := by
  have hT : s.TypeIs (.ref it) "list_iterator" := ⟨_, ho, rfl⟩
  refine wpAny_callSpecial?_slot (name := PySem.Str.ofString "__next__") hT slot_listiter_next (wpAny_call_entry slot_listiter_next hT entry_listiter_next ?_ (args_listiter_next _))
  show wpAny _ _ (field (.ref it) 0 >>= _) _ _ s
  refine wpAny_bind (wpAny_field ho rfl (x := .ref l) rfl ?_)
  show wpAny _ _ (if (Value.ref l == Value.none) = true then _ else _) _ _ s
  rw [if_neg (show ¬ ((Value.ref l == Value.none) = true) from Bool.false_ne_true)]
  show wpAny _ _ (field (.ref it) 1 >>= _) _ _ s
  refine wpAny_bind (wpAny_field ho rfl (x := .int i 0) rfl ?_)
  show wpAny _ _ (seqItems? (.ref l) >>= _) _ _ s
  refine wpAny_bind (wpAny_seqItems hl rfl ?_)
  simp only [Int.toNat_natCast, hx]
  refine wpAny_bind (wpAny_rule (wpAny_bind (wpAny_setField ho rfl (by simp) ?_)))
  show wpAny _ _ (newExc (.type "StopIteration") [] >>= _) _ _ _
  refine wpAny_bind ?_
  simp only [newExc, newTuple]
  refine wpAny_bind (wpAny_newObj_type ?_ (by size_fits))
  refine wpAny_bind (m := firstArgMember _ _) (wpAny_of_eq (a := Value.none) (by first | rfl | (simp only [firstArgMember]; rfl)) ?_)
  refine wpAny_newObj_type ?_ (by size_fits)
  simp only [raiseNew]
  refine wpAny_bind (wpAny_handled ?_)
  rw [show A.in1.handled = none from hh]
  refine wpAny_bind (wpAny_pure (wpAny_throw ?_))
  refine hE _ _ _ (Heap.SameBut.update ..) (Heap.get?_update_self _ ho (Obj.isFreed_of_fields (Obj.data_mapFields rfl _))) ⟨fun b o e => Heap.get?_push_of_some _ (Heap.get?_push_of_some _ e), ?_, ⟨_, _, Heap.get?_push_size _ rfl, rfl, rfl⟩⟩
  refine Option.eq_none_iff_forall_ne_some.mpr fun o e => ?_
  have := Heap.lt_size e
  simp at this
  exact absurd this (Nat.not_lt.mpr (Nat.le_succ _))
theorem call_next {v : Value} (hT : s.TypeIs v "list_iterator") (h : wpAny (model prog w) A.in1 (callSpecial? v (PySem.Str.ofString "__next__")) (fun r s' => ∃ x, r = some x ∧ Q x s') E s) :
    wpAny (model prog w) A (call (.builtin "next") [v]) Q E s := by
  refine call_function_entry (by decide +kernel) (by decide +kernel) kdk_entry_next (kdk_args_next _) ?_
  unfold Builtin.«next»
  refine wpAny_bind (m := someArgs "next" 1 2 _) (wpAny_of_eq (a := [v]) (by first | rfl | kernel_rfl!) ?_)
  refine wpAny_bind (wpAny_specialOf hT slot_listiter_next.lookup ?_)
  rw [if_neg (by simp)]
  refine wpAny_bind (wpAny_mono h (fun r s' q => ?_) fun _ _ q => q)
  obtain ⟨x, rfl, q⟩ := q
  exact wpAny_pure ⟨_, rfl, q⟩
end
section
variable {prog : Program} {w : World} {A : Around} {E : Value → Shared → Prop} {s : Shared} {h₀ : Heap} {L l it : Addr} {m : PySem.Str → Option Value} {news news' : List (Addr × Obj)} {its : Array Value} {n i : Nat} {Q : Value → Shared → Prop}
theorem iter_N (F : Fr h₀ L s.heap m) (N : News h₀ L s.heap news) (hl : (l, listOf its n) ∈ news)
    (h : ∀ q h', Fr h₀ L h' m → News h₀ L h' ((q, itObj l 0) :: news) → (∀ p ∈ news, p.1 < q) → Q (.ref q) { s with heap := h' }) : wpAny (model prog w) A (call (.builtin "iter") [.ref l]) Q E s := by
  refine call_function_entry (by decide +kernel) (by decide +kernel) kdk_entry_iter (kdk_args_iter _) ?_
  unfold Builtin.«iter»
  refine wpAny_bind (m := someArgs "iter" 1 2 _) (wpAny_of_eq (a := [Value.ref l]) (by first | rfl | kernel_rfl!) ?_)
  show wpAny _ _ (pyIter (.ref l) >>= _) _ _ _
  refine wpAny_bind (wpAny_pyIter_list (items := its) ⟨_, (N _ hl).1, rfl, n, rfl⟩ ?_)
  exact wpAny_pure ⟨_, rfl, h _ _ (F.push _) (N.push F _) fun p hp => Heap.lt_size (N p hp).1⟩
theorem next_item_N {x : Value} (F : Fr h₀ L s.heap m) (N : News h₀ L s.heap news) (hl : (l, listOf its n) ∈ news) (U : Upd it (itObj l i) (itObj l (i + 1)) news news') (hx : its[i]? = some x)
    (h : ∀ h', Fr h₀ L h' m → News h₀ L h' news' → Q x { s with heap := h' }) : wpAny (model prog w) A (call (.builtin "next") [.ref it]) Q E s := by
  have hlo := (N _ hl).1
  obtain ⟨pre, post, rfl, rfl, a, b⟩ := U.split
  have z := N (it, itObj l i) (List.mem_append.mpr (.inr (.head _)))
  refine call_next ⟨_, z.1, rfl⟩ (wp_special_item z.1 hlo hx fun h' hs ho' => ⟨x, rfl, h h' (F.change hs z.2.1 z.2.2) (news_set N a b hs ho')⟩)
theorem next_end_N (hh : A.handled = none) (F : Fr h₀ L s.heap m) (N : News h₀ L s.heap news) (hl : (l, listOf its n) ∈ news) (U : Upd it (itObj l i) (itEnd i) news news') (hx : its[i]? = none)
    (h : ∀ h₁ h' e, Fr h₀ L h₁ m → News h₀ L h₁ news' → Heap.NewExc h₁ h' e "StopIteration" → E (.ref e) { s with heap := h' }) : wpAny (model prog w) A (call (.builtin "next") [.ref it]) Q E s := by
  have hlo := (N _ hl).1
  obtain ⟨pre, post, rfl, rfl, a, b⟩ := U.split
  have z := N (it, itObj l i) (List.mem_append.mpr (.inr (.head _)))
  exact call_next ⟨_, z.1, rfl⟩ (wp_special_end hh z.1 hlo hx fun h₁ h' e hs ho' hx' => h h₁ h' e (F.change hs z.2.1 z.2.2) (news_set N a b hs ho') hx')
end
end Mine
-- text B3b
namespace Mine
open PySem.Calls PySem.Spec
/-- what a body leaves behind that has caught an exception: a caller's frame may have other slots -/
noncomputable def BackS (fs : List Addr) (g : Heap) (s₀ : Shared) (Post : Value → List (Addr × Obj) → Prop) (v : Value) (s' : Shared) : Prop :=
  ∃ g' L'' nw m' h' tk', s' = { s₀ with heap := h', toks := tk' } ∧ KtsTurn fs g g' ∧ Post v nw ∧ Fr g' L'' h' m' ∧ News g' L'' h' nw
noncomputable def ClR (prog : Program) (w : World) (K : Frag) (p : Program) (loose : List Str) (mean : ExcName → Option Value) (mg mb : Str → Option Value) (f : Addr) (lv : Nat) (pre : Heap → Prop) (vs : List Value) (Post : Value → List (Addr × Obj) → Prop) : Prop :=
  ∀ (dp un : Nat) (gd : Option (List Code)) (cn : Str) (cs : Scope) (a : Addr) (ccd : Value) (A₀ : Around) (base h₀ : Heap) (L : Addr) (m : Str → Option Value) (news : List (Addr × Obj)) (s : Shared) (Q E : Value → Shared → Prop),
    Below A₀ base [] h₀ → Fr h₀ L s.heap m → K.In h₀ → News h₀ L s.heap news → Top p loose mean mg mb h₀ → K.In base → Top p loose mean mg mb base → cs.kind = .function → pre s.heap → dp + lv + 1 < recursionLimit → un + 10 * lv + 10 < cLine →
    (∀ v nw h' tk', Post v nw → Fr h₀ L h' m → News h₀ L h' (nw ++ news) → (∀ p ∈ nw, s.heap.get? p.1 = none) → Q v { s with heap := h', toks := tk' }) →
    wpAny (model prog w) (ktrTop dp un gd cn cs L a ccd [] []) (call (.ref f) vs) Q E s
section
variable {prog : Program} {w : World} {K : Frag} {p : Program} {loose : List Str} {mean : ExcName → Option Value} {mg mb : Str → Option Value} {f : Addr} {lv : Nat} {pre : Heap → Prop} {vs : List Value} {Post : Value → List (Addr × Obj) → Prop}
  {name qual : Str} {params : Arguments} {body : List Stmt} {scope : Scope} {dV kV doc pm cdv ct oc : Value} {an od : Option Addr} {osl : Array (Option Value)} {binds : List (Str × Value)}
theorem ClR.intro (ho : K.lookup f = some ⟨oc, od, .func (fnOf name qual params body scope dV kV doc pm an cdv ct), osl⟩) (hcd : codeIn K cdv qual = true)
    (hbind : ∀ s : Shared, K.In s.heap → BindsTo s (fnOf name qual params body scope dV kV doc pm an cdv ct) ⟨vs, []⟩ binds) (hloc : ∀ y ∈ binds, scope.names.lookup y.1 = some .local)
    (hco : scope.isCoroutine = false) (hgen : scope.isGenerator = false) (hk : scope.kind = .function) (hcell : ∀ x ∈ scope.names, x.2 ≠ .cell)
    (h : ∀ (dp un : Nat) (gd : Option (List Code)) (cn : Str) (cs : Scope) (L₀ a : Addr) (ccd : Value) (A₀ : Around) (base g : Heap) (L' : Addr) (s : Shared), Below A₀ base [envOf cn cs L₀ a ccd] g → Fr g L' s.heap (fun y => binds.reverse.lookup y) → News g L' s.heap [] → K.In g → Top p loose mean mg mb g → K.In base → Top p loose mean mg mb base →
      KtsDicts ([envOf cn cs L₀ a ccd].filterMap (·.frame)) g → 1 ≤ dp → 3 ≤ un → pre g → dp + lv < recursionLimit → un + 10 * lv + 7 < cLine →
      wpAny (model prog w) (ktrTop dp un gd qual scope L' f cdv [] [envOf cn cs L₀ a ccd]) (execs body (envOf qual scope L' f cdv))
        (fun fl s' => BackS ([envOf cn cs L₀ a ccd].filterMap (·.frame)) g s Post (match fl with | .ret v => v | _ => .none) s') (fun _ _ => False) s) :
    ClR prog w K p loose mean mg mb f lv pre vs Post := by
  intro dp un gd cn cs a ccd A₀ base h₀ L m news s Q E B F X N T XB TB hck hpre hdp hun hret
  refine wpAny_call ?_
  obtain ⟨oL, es, ep, hLg, hLd, hN, hNs, st, B₂⟩ := kts_enter (A := ktrTop dp un gd cn cs L a ccd [] []) (a := a) (ccd := ccd) B F (News.nil (h₀ := h₀) (L := L) (h := s.heap)) rfl hck
  have Xs := X.keeps F.keep
  refine codeAny_call_def (fd := fnOf name qual params body scope dV kV doc pm an cdv ct) (body := body) (binds := binds) (by show dp < _; lia) (Xs _ _ ho) rfl (T.nolimit.keeps F.keep) (codeRec_of Xs hcd) rfl (hbind s Xs) hcell hloc (fun h₁ hns hk₁ => ?_) hco hgen hk
  have D : KtsDicts ([envOf cn cs L a ccd].filterMap (·.frame)) s.heap := fun b hb => by
    rcases kts_mem hb with rfl | z
    · exact ⟨oL, es, ep, hLg, hLd⟩
    · simp at z
  refine wpAny_mono (h (dp + 1) (un + 3) gd cn cs L a ccd (ktrTop dp un gd cn cs L a ccd [] []) base s.heap s.heap.objs.size { s with heap := h₁, toks := s.toks + binds.length } B₂ ⟨hns, hk₁, Nat.le_refl _⟩ News.nil Xs (T.keeps F.keep) XB TB D (by lia) (by lia) hpre (by lia) (by lia)) (fun fl s' hb => ?_) fun _ _ x => x.elim
  obtain ⟨g', L'', nw, m', h', tk', rfl, T', hP, F', N'⟩ := hb
  have nL₀ : h₀.get? L = none := kts_self F
  obtain ⟨sl, hs⟩ := T'.up hLg
  have kp : ∀ b o, b ≠ L → s.heap.get? b = some o → h'.get? b = some o := fun b o hb e => F'.keep b o (T'.other b o e (fun q => by
    rcases kts_mem q with z | z
    · exact hb z
    · simp at z))
  have fr : ∀ q ∈ nw, s.heap.get? q.1 = none := fun q hq => by
    cases e : s.heap.get? q.1 with
    | none => rfl
    | some o =>
      obtain ⟨sl', hs'⟩ := T'.up e
      have := (N' q hq).2.2
      rw [hs'] at this
      cases this
  refine hret _ nw h' tk' hP ⟨hNs sl _ (F'.keep _ _ hs), fun b o e => kp b o (fun q => by rw [q, nL₀] at e; cases e) (F.keep b o e), F.above⟩ (fun q hq => ?_) fr
  rcases List.mem_append.mp hq with hq | hq
  · refine ⟨(N' q hq).1, fun z => ?_, ?_⟩
    · have := (N' q hq).2.2; rw [z, hs] at this; cases this
    · cases e : h₀.get? q.1 with
      | none => rfl
      | some o => have := fr q hq; rw [F.keep _ _ e] at this; cases this
  · exact ⟨kp _ _ (N q hq).2.1 (N q hq).1, (N q hq).2⟩
theorem caught_top {dp un : Nat} {gd : Option (List Code)} {A₀ : Around} {s' : Shared} {base g g₀ G : Heap} {outer : List Env} {L a e : Addr} {m : Str → Option Value} {name : Str} {scope : Scope} {cd : Value}
  {b₀ : Stmt} {suite : List Stmt} {pos np : Pos} {rest : List ExceptHandler} {Q : Flow → Shared → Prop} {news : List (Addr × Obj)} {KF : Frag} {x : Str} {X T' : String} (h1 : 1 ≤ dp) (h3 : 3 ≤ un)
    (R : RaisedSN base G (envOf name scope L a cd :: outer) e (.type X) news s'.heap) (F : Fr g L G m) (K : Below A₀ base outer g) (hsm : G.UpToSlots s'.heap) (XB : KF.In base) (TB : Top p loose mean mg mb base)
    (D : KtsDicts (outer.filterMap (·.frame)) g) (T0 : KtsTurn (outer.filterMap (·.frame)) g₀ g)
    (ex : nsIn KF mainGlobals x = some none) (hv : bootBuiltins x = some (.type T')) (hn' : x ≠ "__name__")
    (hexc : isSubtype (.type T') (.type "BaseException") = pure true) (hnt : isSubtype (.type ((Manifest.find? T').elim "type" fun y => y.metatype)) (.type "tuple") = pure false) (hsub : isSubtype (.type X) (.type T') = pure true)
    (k : ∀ h' g', KtsTurn (outer.filterMap (·.frame)) g₀ g' → Fr g' L h' m → News g' L h' news → 
      wpAny (model prog w) ((ktrTop dp un gd name scope L a cd [] outer).mark (some (.ref e))) (execs (b₀ :: suite) (envOf name scope L a cd)) Q (fun _ _ => False) { s' with heap := h' })
    (hk : scope.kind = .function) (hx : (envOf name scope L a cd).kindOf x = some .globalImplicit) (hd : (x == ("__debug__" : Str)) = false) :
    wpAny (model prog w) (ktrTop dp un gd name scope L a cd [] outer) (noteFrame (.ref e) (envOf name scope L a cd))
      (fun _ s₂ => wpAny (model prog w) (ktrTop dp un gd name scope L a cd [] outer) (setFlight (.ref e) none) (fun _ s₃ =>
        wpAny (model prog w) (ktrTop dp un gd name scope L a cd [] outer) (handleBy (.ref e) (envOf name scope L a cd) (.ExceptHandler (some (.Name x np)) none (b₀ :: suite) pos :: rest)) Q (fun _ _ => False) s₃) (fun _ _ => False) s₂) (fun _ _ => False) s' := by
  obtain ⟨dp, rfl⟩ : ∃ d, dp = d + 1 := ⟨dp - 1, by lia⟩
  obtain ⟨un, rfl⟩ : ∃ d, un = d + 3 := ⟨un - 3, by lia⟩
  exact caught_SN0 (A₀ := { handled := none, depth := dp, frames := some outer, guards := gd, units := un }) R F ⟨rfl, K.stays, K.frames⟩ hsm XB TB D T0 ex hv hn' hexc hnt hsub (fun h' g' T F N _ _ _ _ => k h' g' T F N) hk hx hd
theorem ClR.use (C : ClR prog w K p loose mean mg mb f lv pre vs Post) {dp un : Nat} {gd : Option (List Code)} {cn : Str} {cs : Scope} {a : Addr} {ccd : Value} {A₀ : Around} {base h₀ : Heap} {L : Addr} {m : Str → Option Value} {news : List (Addr × Obj)} {s : Shared} {Q E : Value → Shared → Prop}
    (B : Below A₀ base [] h₀) (F : Fr h₀ L s.heap m) (X : K.In h₀) (N : News h₀ L s.heap news) (T : Top p loose mean mg mb h₀) (XB : K.In base) (TB : Top p loose mean mg mb base) (hk : cs.kind = .function) (hp : pre s.heap) (hd : dp + lv + 1 < recursionLimit) (hu : un + 10 * lv + 10 < cLine)
    (ret : ∀ v nw h' tk', Post v nw → Fr h₀ L h' m → News h₀ L h' (nw ++ news) → (∀ p ∈ nw, s.heap.get? p.1 = none) → Q v { s with heap := h', toks := tk' }) :
    wpAny (model prog w) (ktrTop dp un gd cn cs L a ccd [] []) (call (.ref f) vs) Q E s :=
  C dp un gd cn cs a ccd A₀ base h₀ L m news s Q E B F X N T XB TB hk hp hd hu ret
end
end Mine
-- text B4b
namespace Mine
open PySem.Calls PySem.Spec
/-- what a body leaves behind that may change the caller's own objects (news) -/
noncomputable def BackV (g : Heap) (L' : Addr) (s₀ : Shared) (Post : Value → List (Addr × Obj) → Prop) (v : Value) (s' : Shared) : Prop :=
  ∃ nw m' h' tk', s' = { s₀ with heap := h', toks := tk' } ∧ Post v nw ∧ Fr g L' h' m' ∧ News g L' h' nw
noncomputable def ClE (prog : Program) (w : World) (K : Frag) (p : Program) (loose : List Str) (mean : ExcName → Option Value) (mg mb : Str → Option Value) (f : Addr) (lv : Nat) (cls : String) (vs : List Value) (news : List (Addr × Obj)) (Post : Value → List (Addr × Obj) → Prop) (PostE : List (Addr × Obj) → Prop) : Prop :=
  ∀ (dp un : Nat) (gd : Option (List Code)) (cn : Str) (cs : Scope) (a : Addr) (ccd : Value) (outer : List Env) (A₀ : Around) (base h₀ : Heap) (L : Addr) (m : Str → Option Value) (s : Shared) (Q E : Value → Shared → Prop),
    Below A₀ base outer h₀ → Fr h₀ L s.heap m → K.In h₀ → News h₀ L s.heap news → Top p loose mean mg mb h₀ → K.In base → Top p loose mean mg mb base → KtsDicts (outer.filterMap (·.frame)) h₀ → cs.kind = .function → dp + lv + 1 < recursionLimit → un + 10 * lv + 10 < cLine →
    (∀ v nw h' tk', Post v nw → Fr h₀ L h' m → News h₀ L h' nw → Q v { s with heap := h', toks := tk' }) →
    (∀ e nw G h' tk', PostE nw → Fr h₀ L G m → RaisedSN base G (envOf cn cs L a ccd :: outer) e (.type cls) nw h' → G.UpToSlots h' → E (.ref e) { s with heap := h', toks := tk' }) →
    wpAny (model prog w) (ktrTop dp un gd cn cs L a ccd [] outer) (call (.ref f) vs) Q E s
section
variable {prog : Program} {w : World} {K : Frag} {p : Program} {loose : List Str} {mean : ExcName → Option Value} {mg mb : Str → Option Value} {f : Addr} {lv : Nat} {cls : String} {vs : List Value} {news : List (Addr × Obj)} {Post : Value → List (Addr × Obj) → Prop} {PostE : List (Addr × Obj) → Prop}
  {name qual : Str} {params : Arguments} {body : List Stmt} {scope : Scope} {dV kV doc pm cdv ct oc : Value} {an od : Option Addr} {osl : Array (Option Value)} {binds : List (Str × Value)}
theorem ClE.intro (ho : K.lookup f = some ⟨oc, od, .func (fnOf name qual params body scope dV kV doc pm an cdv ct), osl⟩) (hcd : codeIn K cdv qual = true)
    (hbind : ∀ s : Shared, K.In s.heap → BindsTo s (fnOf name qual params body scope dV kV doc pm an cdv ct) ⟨vs, []⟩ binds) (hloc : ∀ y ∈ binds, scope.names.lookup y.1 = some .local)
    (hco : scope.isCoroutine = false) (hgen : scope.isGenerator = false) (hk : scope.kind = .function) (hcell : ∀ x ∈ scope.names, x.2 ≠ .cell)
    (h : ∀ (dp un : Nat) (gd : Option (List Code)) (outer : List Env) (A₀ : Around) (base g : Heap) (L' : Addr) (s : Shared) (EX : Value → Shared → Prop), 
      (∀ e nw m' h h' tk', PostE nw → Fr g L' h m' → News g L' h nw → Heap.NewExc h h' e cls → wpAny (model prog w) (ktrTop dp un gd qual scope L' f cdv [] outer) (leaving (envOf qual scope L' f cdv) (.ref e)) (fun _ s'' => EX (.ref e) s'') (fun e' s'' => EX e' s'') { s with heap := h', toks := tk' }) →
      Below A₀ base outer g → Fr g L' s.heap (fun y => binds.reverse.lookup y) → News g L' s.heap news → K.In g → Top p loose mean mg mb g → 
      dp + lv < recursionLimit → un + 10 * lv + 7 < cLine →
      wpAny (model prog w) (ktrTop dp un gd qual scope L' f cdv [] outer) (execs body (envOf qual scope L' f cdv))
        (fun fl s' => BackV g L' s Post (match fl with | .ret v => v | _ => .none) s') (fun e s' => wpAny (model prog w) (ktrTop dp un gd qual scope L' f cdv [] outer) (leaving (envOf qual scope L' f cdv) e) (fun _ s'' => EX e s'') (fun e' s'' => EX e' s'') s') s) :
    ClE prog w K p loose mean mg mb f lv cls vs news Post PostE := by
  intro dp un gd cn cs a ccd outer A₀ base h₀ L m s Q E B F X N T XB TB D hck hdp hun hret hexc
  refine wpAny_call ?_
  have Xs := X.keeps F.keep
  refine code_defS (A := ktrTop dp un gd cn cs L a ccd [] outer) (a := a) (ccd := ccd) B F X N T XB TB D KtsTurn.refl rfl ho hcd (by show dp < _; lia) (hbind s Xs) hloc (fun g L' h₁ FL F₁ N₁ B₁ X₁ T₁ D₁ => ?_) hck hco hgen hk hcell
  refine wpAny_mono (h (dp + 1) (un + 3) gd (envOf cn cs L a ccd :: outer) (ktrTop dp un gd cn cs L a ccd [] outer) base g L' { s with heap := h₁, toks := s.toks + binds.length } E (fun e nw m' h h' tk' hP F' N' hx => ?_) B₁ F₁ N₁ X₁ T₁ (by lia) (by lia)) (fun fl s' hb => ?_) fun e s' hb => hb
  · refine leave_newS (A := ktrTop dp un gd cn cs L a ccd [] outer) B₁ hx F' N' (fun h'' R _ U => ?_) hk
    exact hexc e nw g h'' tk' hP FL R U
  · obtain ⟨nw, m', h', tk', rfl, hP, F', N'⟩ := hb
    exact .inl ⟨L', m', nw, F', N', fun kF kN => hret _ nw h' tk' hP kF kN⟩
theorem ClE.use (C : ClE prog w K p loose mean mg mb f lv cls vs news Post PostE) {dp un : Nat} {gd : Option (List Code)} {cn : Str} {cs : Scope} {a : Addr} {ccd : Value} {outer : List Env} {A₀ : Around} {base h₀ : Heap} {L : Addr} {m : Str → Option Value} {s : Shared} {Q E : Value → Shared → Prop}
    (B : Below A₀ base outer h₀) (F : Fr h₀ L s.heap m) (X : K.In h₀) (N : News h₀ L s.heap news) (T : Top p loose mean mg mb h₀) (XB : K.In base) (TB : Top p loose mean mg mb base) (D : KtsDicts (outer.filterMap (·.frame)) h₀) (hk : cs.kind = .function) (hd : dp + lv + 1 < recursionLimit) (hu : un + 10 * lv + 10 < cLine)
    (ret : ∀ v nw h' tk', Post v nw → Fr h₀ L h' m → News h₀ L h' nw → Q v { s with heap := h', toks := tk' })
    (exc : ∀ e nw G h' tk', PostE nw → Fr h₀ L G m → RaisedSN base G (envOf cn cs L a ccd :: outer) e (.type cls) nw h' → G.UpToSlots h' → E (.ref e) { s with heap := h', toks := tk' }) :
    wpAny (model prog w) (ktrTop dp un gd cn cs L a ccd [] outer) (call (.ref f) vs) Q E s :=
  C dp un gd cn cs a ccd outer A₀ base h₀ L m s Q E B F X N T XB TB D hk hd hu ret exc
end
end Mine
-- text R0b
namespace Mine
open PySem.Calls PySem.Spec
section
variable {prog : Program} {w : World} {A : Around} {E : Value → Shared → Prop} {s : Shared} {h₀ : Heap} {L : Addr} {m : Str → Option Value} {news : List (Addr × Obj)} {env : Env}
theorem ints_of_signs {y : Str} {g : Nat → Int} : ∀ {vs ys : List Value} {cs : List Nat}, vs.length = cs.length → (∀ (j : Nat) (v : Value), vs[j]? = some v → ∃ c u, cs[j]? = some c ∧ v = Value.str ⟨#[c]⟩ u) →
    Paired (fun v r => ∀ c u, v = Value.str ⟨#[c]⟩ u → ∃ t, r = Value.int (g c) t) vs ys → IntsAre ys (cs.map g)
  | [], _, [], _, _, .nil => .nil
  | [], _, _ :: _, h, _, _ => by cases h
  | _ :: _, _, [], h, _, _ => by cases h
  | v :: vs, _, c :: cs, hl, hP, .cons hF ht => by
    obtain ⟨c', u, hc, rfl⟩ := hP 0 v rfl
    cases hc
    obtain ⟨t, rfl⟩ := hF _ _ rfl
    exact .cons _ _ (ints_of_signs (y := y) (by simpa using hl) (fun j v hv => by simpa using hP (j + 1) v (by simpa using hv)) ht)
theorem comp_str {elt iter : Expr} {x : Str} {px : Pos} {scope : Scope} {pos : Pos} {Q : Value → Shared → Prop} {y : Str} {t : Tok} (g : Nat → Int)
    (F₀ : Fr h₀ L s.heap m) (N₀ : News h₀ L s.heap news) (hh : A.handled = none)
    (hclos : closureFor scope env = pure []) (hcell : ∀ y ∈ scope.names, y.2 ≠ .cell) (hkind : scope.kind = .function)
    (hnames : ∀ y ∈ scope.names, y.2 = .local → scope.names.lookup y.1 = some .local) (hx : scope.names.lookup x = some .local) (hsz : y.length ≤ sizeLine)
    (hi : ∀ Q' : Value → Shared → Prop, Q' (.str y t) s → wpAny (model prog w) A (eval iter env) Q' E s)
    (helt : ∀ C oC m₂ c u (s₃ : Shared) E', LCg.NsObj oC m₂ → m₂ x = some (.str ⟨#[c]⟩ u) → Fr h₀ L s₃.heap m → News h₀ L s₃.heap ((C, oC) :: news) →
      wpAny (model prog w) A (eval elt (compEnvC scope [] C env)) (fun r s₄ => (∃ t, r = .int (g c) t) ∧ Keeps s₃ s₄) E' s₃)
    (ret : ∀ D n ys h' tk, IntsAre ys ((ch y).map g) → Fr h₀ L h' m → News h₀ L h' ((D, listOf ys.toArray n) :: news) → (∀ p ∈ news, @Ne Nat p.1 D) → Q (.ref D) { s with heap := h', toks := tk })
    (hs : ∀ x, foldedSetIterable iter env x = pure x) :
    wpAny (model prog w) A (eval (.ListComp elt [⟨.Name x px, iter, [], 0⟩] scope pos) env) Q E s := by
  refine wpAny_ListComp_free (cl := []) (fun _ => true) (fun v r => ∀ c u, v = Value.str ⟨#[c]⟩ u → ∃ t, r = Value.int (g c) t) hclos hcell hkind hnames hx (hi _ ?_) hs
  refine wpAny_pyIter_str fun o St W hst => ?_
  have up : ∀ (h' : Heap), (∀ b o', b ∉ [s.heap.objs.size] → (s.heap.push o).get? b = some o' → h'.get? b = some o') → ∀ b o', s.heap.get? b = some o' → h'.get? b = some o' :=
    fun h' hk b o' e => hk b o' (old_not_new e) (Heap.get?_push_of_some _ e)
  refine ⟨s.heap.objs.size, [s.heap.objs.size], [s.heap.objs.size], y.cps.size, SignAt y, St, rfl, W A hh, hsz, hst, ?_, ⟨?_, ?_⟩, ?_⟩
  · intro b hb
    show b < (s.heap.push o).objs.size
    rw [Heap.size_push, List.mem_singleton.mp hb]
    exact Nat.lt_succ_self _
  · intro C i v s₃ m₃ E' _ hP hn hm _ _
    exact wpAny_pure ⟨rfl, _, _, rfl, fun _ _ e => e⟩
  · intro C i v s₃ m₃ E' hC hP hp hn hm hk _
    obtain ⟨c, u, _, rfl⟩ := hP
    have hC' : s.heap.objs.size + 1 ≤ C := by have := hC; rw [show ({ s with heap := s.heap.push o } : Shared).heap.objs.size = s.heap.objs.size + 1 from Heap.size_push _ _] at this; exact this
    obtain ⟨oC, eC, nC⟩ := LCg.ns_obj hn
    have hCL : C ≠ L := fun q => by have h1 : @LT.lt Nat _ L s.heap.objs.size := F₀.ns.lt; have h2 : @LE.le Nat _ (s.heap.objs.size + 1) C := hC'; have h3 : @Eq Nat C L := q; lia
    have hC₀ : h₀.get? C = none := by
      cases e : h₀.get? C with
      | none => rfl
      | some o' => have h1 : @LT.lt Nat _ C s.heap.objs.size := Heap.lt_size (F₀.keep _ _ e); have h2 : @LE.le Nat _ (s.heap.objs.size + 1) C := hC'; lia
    have k := up s₃.heap hk
    refine wpAny_mono (helt C oC m₃ c u s₃ E' nC hm (F₀.keeps k) (fun p hp => ?_)) (fun r s₄ h₄ => ⟨fun c' u' e => ?_, h₄.2⟩) fun _ _ e => e
    · rcases List.mem_cons.mp hp with rfl | hp
      · exact ⟨eC, hCL, hC₀⟩
      · exact ⟨k _ _ (N₀ p hp).1, (N₀ p hp).2⟩
    · cases e; exact h₄.1
  · intro D h' tk ys vs hnew hlD hplD hlen hP hF hk
    have k := up h' hk
    obtain ⟨n, hD⟩ := hplD
    have hns : s.heap.get? D = none := by
      cases e : s.heap.get? D with
      | none => rfl
      | some o' => rw [Heap.get?_push_of_some _ e] at hnew; cases hnew
    have off : ∀ p ∈ news, @Ne Nat p.1 D := fun p hp q => by have := (N₀ p hp).1; rw [q, hns] at this; cases this
    have hDL : D ≠ L := fun q => by
      obtain ⟨o', _, _, e, _⟩ := F₀.ns
      rw [← q, hns] at e; cases e
    have hD₀ : h₀.get? D = none := by
      cases e : h₀.get? D with
      | none => rfl
      | some o' => rw [F₀.keep _ _ e] at hns; cases hns
    refine ret D n ys.toList h' tk ?_ (F₀.keeps k) (fun p hp => ?_) off
    · refine ints_of_signs (y := y) (vs := vs) (by rw [hlen]; simp [ch]) (fun j v hv => ?_) (by rw [List.filter_eq_self.mpr (fun _ _ => rfl)] at hF; exact hF)
      obtain ⟨c, u, hc, rfl⟩ := hP j v hv
      exact ⟨c, u, by simpa [ch] using hc, rfl⟩
    · rcases List.mem_cons.mp hp with rfl | hp
      · exact ⟨by rw [Array.toArray_toList]; exact hD, hDL, hD₀⟩
      · exact ⟨k _ _ (N₀ p hp).1, (N₀ p hp).2⟩
end
end Mine
-- text V1b
namespace Mine
open PySem.Calls PySem.Spec
set_option maxRecDepth 100000
set_option maxHeartbeats 8000000
noncomputable def readV : Nat → List Nat → Option (Nat × List Nat)
  | _, [] => none
  | v, b :: r => if b / 64 % 2 = 1 then readV ((v * 64 + b % 64)) r else some (v * 64 + b % 64, r)
theorem readV_len : ∀ {v : Nat} {l : List Nat} {x : Nat × List Nat}, readV v l = some x → x.2.length < l.length
  | _, [], _, h => by cases h
  | v, b :: r, x, h => by
    simp only [readV] at h
    split at h
    · have := readV_len h; simp; lia
    · cases h; simp
noncomputable def readAll (l : List Nat) : List Nat := match h : readV 0 l with
  | none => []
  | some (v, r) => v :: readAll r
termination_by l.length
decreasing_by exact readV_len h
theorem readAll_none {l : List Nat} (h : readV 0 l = none) : readAll l = [] := by
  rw [readAll]; split
  · rfl
  · rename_i e; rw [h] at e; cases e
theorem readAll_some {l r : List Nat} {v : Nat} (h : readV 0 l = some (v, r)) : readAll l = v :: readAll r := by
  rw [readAll]; split
  · rename_i e; rw [h] at e; cases e
  · rename_i e; rw [h] at e; cases e; rfl
theorem and63 (c : Nat) : Builtin.bitAnd (c : Int) 63 = ((c % 64 : Nat) : Int) := by rw [bitAnd_m6]; lia
theorem bitAnd_nat (a b : Nat) : Builtin.bitAnd (a : Int) (b : Int) = ((a &&& b : Nat) : Int) := by
  unfold Builtin.bitAnd
  simp
theorem and64 (c : Nat) : Builtin.bitAnd (c : Int) 64 ≠ 0 ↔ c / 64 % 2 = 1 := by
  have h := bitAnd_nat c 64
  rw [show ((64 : Nat) : Int) = 64 from rfl] at h
  rw [h]
  have e : c &&& 64 = if c.testBit 6 then 64 else 0 := by
    apply Nat.eq_of_testBit_eq
    intro i
    rw [Nat.testBit_and, show (64 : Nat) = 2 ^ 6 from rfl, Nat.testBit_two_pow]
    by_cases q : 6 = i
    · subst q; cases c.testBit 6 <;> decide
    · have z : Nat.testBit 64 i = false := by rw [show (64 : Nat) = 2 ^ 6 from rfl, Nat.testBit_two_pow]; simp [q]
      cases c.testBit 6 <;> simp [q, z]
  rw [e, Nat.testBit_eq_decide_div_mod_eq]
  by_cases q : c / 64 % 2 = 1
  · simp [q]
  · simp [q]
theorem and_low (v r : Nat) (h : r < 64) : v * 64 &&& r = 0 := by
  apply Nat.eq_of_testBit_eq
  intro i
  rw [Nat.testBit_and, Nat.zero_testBit]
  by_cases q : i < 6
  · have : (v * 2 ^ 6).testBit i = false := by rw [Nat.testBit_mul_two_pow]; simp; lia
    rw [show v * 64 = v * 2 ^ 6 from rfl, this]; rfl
  · have : r.testBit i = false := Nat.testBit_lt_two_pow (Nat.lt_of_lt_of_le (show r < 2 ^ 6 from h) (Nat.pow_le_pow_right (by decide) (by lia : 6 ≤ i)))
    rw [this]; simp
theorem or6 (v c : Nat) : Builtin.bitOr ((v : Int) * 2 ^ (6 : Int).toNat) (Builtin.bitAnd (c : Int) 63) = ((v * 64 + c % 64 : Nat) : Int) := by
  rw [and63, show ((v : Int) * 2 ^ (6 : Int).toNat) = ((v * 64 : Nat) : Int) by simp, bitOr_and, bitAnd_nat, and_low v (c % 64) (Nat.mod_lt c (by decide : 64 > 0))]
  simp
theorem vbits {v j : Nat} (h : v < 2 ^ (6 * j)) (hj : j ≤ 2000) : (Builtin.Int.intBits (v : Int) : Int) + 6 ≤ 2 ^ 27 := by
  have : Builtin.Int.intBits (v : Int) ≤ 6 * j := by
    unfold Builtin.Int.intBits
    split
    · exact Nat.zero_le _
    · rename_i hz
      have hz' : v ≠ 0 := fun q => hz (by simp [q])
      have := (Nat.log2_lt hz').mpr h
      simp; lia
  have : Builtin.Int.intBits (v : Int) ≤ 12000 := by lia
  have h2 : (2 : Int) ^ 27 = 134217728 := by decide
  lia
theorem vnext {v j c : Nat} (h : v < 2 ^ (6 * j)) : v * 64 + c % 64 < 2 ^ (6 * (j + 1)) := by
  rw [show 6 * (j + 1) = 6 * j + 6 by lia, Nat.pow_add]
  have := Nat.mod_lt c (show 64 > 0 by decide)
  lia
theorem readV_cons {v b : Nat} {cs : List Nat} {j : Nat} (h : cs[j]? = some b) : readV v (cs.drop j) = if b / 64 % 2 = 1 then readV (v * 64 + b % 64) (cs.drop (j + 1)) else some (v * 64 + b % 64, cs.drop (j + 1)) := by
  obtain ⟨hj, rfl⟩ := List.getElem?_eq_some_iff.mp h
  rw [List.drop_eq_getElem_cons hj, readV]
theorem readV_end {v : Nat} {cs : List Nat} {j : Nat} (h : cs[j]? = none) : readV v (cs.drop j) = none := by
  rw [List.drop_eq_nil_of_le (by simpa using h)]; rfl
theorem ints_at {cs : List Nat} {ys : List Value} (hys : IntsAre ys (cs.map fun (c : Nat) => (c : Int))) {i : Nat} {v : Value} (h : ys[i]? = some v) : ∃ (c : Nat) (t : Tok), v = .int (c : Int) t ∧ cs[i]? = some c := by
  obtain ⟨k, t, rfl, hk⟩ := IntsAre.at hys i v h
  rw [List.getElem?_map] at hk
  cases e : cs[i]? with
  | none => rw [e] at hk; cases hk
  | some c => rw [e] at hk; cases hk; exact ⟨c, t, rfl, rfl⟩
theorem ints_no {cs : List Nat} {ys : List Value} (hys : IntsAre ys (cs.map fun (c : Nat) => (c : Int))) {i : Nat} (h : ys[i]? = none) : cs[i]? = none := by
  have := hys.length
  simp at this h ⊢
  lia
section
variable {w : World} {p : Program} {loose : List Str} {mean : ExcName → Option Value} {mg mb : Str → Option Value}
section
local macro_rules | `(tactic| walk_at $k:str) => do
  if ["exec While BinOp cons nil", "KswEnd", "call builtin:next"].contains k.getString then `(tactic| refine Stop.out ?_) else Lean.Macro.throwUnsupported
local macro_rules | `(tactic| walk_at "storeName") => `(tactic| (dsimp only; walk_at "storeName"))
local macro_rules | `(tactic| walk_at "inplaceOp LShift int int") => `(tactic| k_dflt (refine ilshift_int (by decide) (vbits (by with_reducible assumption) (by lia)) ?_))
theorem varint_cl (cs : List Nat) (ys : List Value) (hys : IntsAre ys (cs.map fun (c : Nat) => (c : Int))) (l' q D : Addr) (ol : Obj) (i n : Nat) (l1 : @LT.lt Nat _ D q) (l2 : (@LT.lt Nat _ q l') ∧ (@LT.lt Nat _ D l')) (hcs : cs.length ≤ 2000) :
   ClE PySem.Challenge.rw_ny0161_02.row.prog w (Mine.hdK w.params) p loose mean mg mb 72 0 "StopIteration" [.ref q] [(l', ol), (q, itObj D i), (D, listOf ys.toArray n)]
    (fun v nw => ∃ j x t, readV 0 (cs.drop i) = some (x, cs.drop j) ∧ i < j ∧ j ≤ cs.length ∧ v = .int (x : Nat) t ∧ nw = [(l', ol), (q, itObj D j), (D, listOf ys.toArray n)])
    (fun nw => readV 0 (cs.drop i) = none ∧ nw = [(l', ol)]) := by
  k_fill
  refine ClE.intro (binds := [(Str.ofString "iterator", .ref q)]) (by k_is) (by k_is) (fun s X => BindsTo.of_eq rfl) (locs rfl) rfl rfl rfl (by decide) ?_
  intro dp un gd outer A₀ base g L' s EX hEX B F N X T hdp hun
  try k_fold
  k_steps
  unfold Stop
  cases hi : ys[i]? with
  | none =>
    refine next_end_N rfl (by k_asm) (by k_asm) (by k_mem) (by k_upd) (by simpa using hi) ?_
    intro h1 h2 e F1 N1 hx
    exact hEX e _ _ _ _ _ ⟨readV_end (ints_no hys hi), rfl⟩ F1 (fun p hp => N1 p (by simp only [List.mem_singleton] at hp; subst hp; exact List.mem_cons_self)) hx
  | some v =>
    obtain ⟨k, t, rfl, hk⟩ := ints_at hys hi
    refine next_item_N (x := .int k t) (by k_asm) (by k_asm) (by k_mem) (by k_upd) (by simpa using hi) ?_
    intro h1 F1 N1
    k_steps
    unfold Stop
    rename_i h2 tk2 h3 F3 N3
    have hil : i < cs.length := (List.getElem?_eq_some_iff.mp hk).1
    refine ksw_while (σ := Nat × Int × Int × Tok × Tok) (fun c => [(l', ol), (q, itObj D c.1), (D, listOf ys.toArray n)]) (fun c => [(Str.ofString "iterator", .ref q), (Str.ofString "val", .int c.2.1 c.2.2.2.1), (Str.ofString "b", .int c.2.2.1 c.2.2.2.2)]) (fun _ => True) []
      (fun c => ∃ v b : Nat, c.2.1 = v ∧ c.2.2.1 = b ∧ v < 2 ^ (6 * c.1) ∧ i < c.1 ∧ c.1 ≤ cs.length ∧ readV 0 (cs.drop i) = if b / 64 % 2 = 1 then readV v (cs.drop c.1) else some (v, cs.drop c.1)) (fun c => cs.length - c.1) (i + 1, Builtin.bitAnd k 63, k, tk2 + 1, t) F3 N3 trivial
      (by refine List.forall_mem_cons.mpr ⟨?_, List.forall_mem_cons.mpr ⟨?_, List.forall_mem_cons.mpr ⟨?_, List.forall_mem_nil _⟩⟩⟩ <;> (dsimp only; exact rfl))
      ⟨k % 64, k, and63 k, rfl, by have := vnext (v := 0) (j := i) (c := k) (Nat.pow_pos (by decide)); simpa using this, Nat.lt_succ_self _, hil, by rw [readV_cons hk]; simp⟩ (fun c u h5 tk5 _ hp F5 N5 => ?_)
    clear F3 N3
    obtain ⟨j, v, b, t1, t2⟩ := c
    dsimp only [kstB] at F5
    dsimp only at N5 hp
    obtain ⟨v, b, rfl, rfl, hv, hij, hj, hp⟩ := hp
    k_steps
    · unfold Stop
      have h64 : Builtin.bitAnd (b : Int) 64 ≠ 0 := by with_reducible assumption
      rw [if_pos ((and64 b).mp h64)] at hp
      cases hi : ys[j]? with
      | none =>
        refine next_end_N rfl (by k_asm) (by k_asm) (by k_mem) (by k_upd) (by simpa using hi) ?_
        intro h1 h2 e F1 N1 hx
        exact hEX e _ _ _ _ _ ⟨hp.trans (readV_end (ints_no hys hi)), rfl⟩ F1 (fun p hp => N1 p (by simp only [List.mem_singleton] at hp; subst hp; exact List.mem_cons_self)) hx
      | some x =>
        obtain ⟨k2, t', rfl, hk2⟩ := ints_at hys hi
        have hjl : j < cs.length := (List.getElem?_eq_some_iff.mp hk2).1
        refine next_item_N (x := .int k2 t') (by k_asm) (by k_asm) (by k_mem) (by k_upd) (by simpa using hi) ?_
        intro h1 F1 N1
        k_steps
        unfold Stop
        (((refine' ksw_end (_, _, _, _, _) (by assumption) (by assumption) (fun _ hp => hp) trivial ?hk ?hr ?hp ?hm); (case hk => (refine List.forall_mem_cons.mpr ⟨?_, List.forall_mem_cons.mpr ⟨?_, List.forall_mem_cons.mpr ⟨?_, List.forall_mem_nil _⟩⟩⟩ <;> (dsimp only; exact rfl))); (case hr => ksw_same)))
        case hp => exact ⟨v * 64 + k2 % 64, k2, or6 v k2, rfl, vnext hv, by lia, hjl, by rw [hp, readV_cons hk2]⟩
        case hm => dsimp only; lia
    · have h64 : Builtin.bitAnd (b : Int) 64 = 0 := by with_reducible assumption
      rw [if_neg (fun q => (and64 b).mpr q h64)] at hp
      exact ⟨_, _, _, _, rfl, ⟨j, v, t1, hp, hij, hj, rfl, rfl⟩, F5, N5⟩
end
end
end Mine
-- text R1b
namespace Mine
open PySem.Calls PySem.Spec
set_option maxRecDepth 100000
set_option maxHeartbeats 8000000
section
variable {w : World} {p : Program} {loose : List Str} {mean : ExcName → Option Value} {mg mb : Str → Option Value}
theorem si_isExc : isSubtype (.type "StopIteration") (.type "BaseException") = pure true := by rw [isSubtype_type]; kernel_rfl
theorem si_notTuple : isSubtype (.type ((Manifest.find? "StopIteration").elim "type" fun x => x.metatype)) (.type "tuple") = pure false := by
  rw [show ((Manifest.find? "StopIteration").elim "type" fun x => x.metatype) = "type" by kernel_rfl, isSubtype_type]; kernel_rfl
theorem readAll_len : ∀ (n : Nat) (l : List Nat), l.length ≤ n → (readAll l).length ≤ l.length := by
  intro n
  induction n with
  | zero => intro l h; have : l = [] := List.length_eq_zero_iff.mp (by lia); subst this; rw [readAll_none rfl]; simp
  | succ n ih =>
    intro l h
    cases e : readV 0 l with
    | none => rw [readAll_none e]; simp
    | some x =>
      obtain ⟨v, r⟩ := x
      have h1 := readV_len e
      rw [readAll_some e]
      have := ih r (by dsimp only at h1; lia)
      simp; dsimp only at h1; lia
section
local macro_rules | `(tactic| walk_at $k:str) => do
  if ["exec While Constant cons nil", "exec While Compare cons nil", "KswEnd", "Turn", "eval ListComp", "call builtin:next", "exec While BinOp cons nil", "call ref"].contains k.getString then `(tactic| refine Stop.out ?_) else Lean.Macro.throwUnsupported
local macro_rules | `(tactic| walk_at "storeName") => `(tactic| (dsimp only; walk_at "storeName"))
local macro_rules | `(tactic| walk_at "call builtin:iter") => `(tactic| ((k_dflt (refine' iter_N ?k1 ?k2 ?k3 ?_; (case k1 => k_asm); (case k2 => k_asm); (case k3 => k_mem))); intro q' h' F' N' l1; (try k_lt l1); (try dsimp only)))
local macro_rules | `(tactic| walk_at "call builtin:list.append") => `(tactic| k_dflt (refine append_K (by k_asm) (by k_asm) (by k_upd) ?_ (by simp only [List.size_toArray, PySem.sizeLine_eq]; lia)))
theorem read_cl (x : Str) (t : Tok) :
   ClR PySem.Challenge.rw_ny0161_02.row.prog w (Mine.hdK w.params) p loose mean mg mb 103 1 (fun _ => x.length ≤ 2000) [.str x t] (fun v nw => ∃ l n vs, v = .ref l ∧ nw = [(l, listOf vs.toArray n)] ∧ IntsAre vs ((readAll (ch x)).map fun (c : Nat) => (c : Int))) := by
  k_fill
  refine ClR.intro (binds := [(Str.ofString "text", .str x t)]) (by k_is) (by k_is) (fun s X => BindsTo.of_eq rfl) (locs rfl) rfl rfl rfl (by decide) ?_
  intro dp un gd cn cs L₀ a ccd A₀ base g L' s B F N X T XB TB D h1p h3p hx hdp hun
  try k_fold
  k_steps
  unfold Stop
  refine comp_str (y := x) (t := t) (fun c => (c : Int)) (by k_asm) (by k_asm) rfl (by with_unfolding_all rfl) (by decide) rfl (by decide) rfl (by size_fits) (fun Q' hq => by k_steps; exact hq) (fun C oC m₂ c u s₃ E' nC hm F₃ N₃ => ?_) (fun D n ys h' tk hys F N off => ?_) (fun _ => rfl)
  · try k_fold
    k_steps
    exact ⟨_, _, rfl, fun _ _ e => e⟩
  · k_steps
    unfold Stop
    rename_i q' h1 l1 h2 tk1 l' h3 l2 h4 F4 N4
    refine ksw_while (σ := Nat × List Value × Nat) (fun c => [(l', listOf c.2.1.toArray c.2.2), (q', itObj D c.1), (D, listOf ys.toArray n)]) (fun c => [(Str.ofString "numbers", .ref l'), (Str.ofString "octets", .ref q')]) (fun _ => True) [] (fun c => c.1 ≤ (ch x).length ∧ ∃ done, IntsAre c.2.1 (done.map fun (c : Nat) => (c : Int)) ∧ readAll (ch x) = done ++ readAll ((ch x).drop c.1)) (fun c => (ch x).length - c.1) (0, [], 0) F4 N4 trivial (by intro p hp; simp only [List.mem_cons, List.not_mem_nil, or_false] at hp; rcases hp with rfl | rfl <;> rfl) ⟨Nat.zero_le _, [], .nil, by simp⟩ (fun c u h5 tk5 _ hp F5 N5 => ?_)
    clear F4 N4
    obtain ⟨j, vs, k⟩ := c
    dsimp only [kstB] at F5
    dsimp only at N5 hp
    obtain ⟨hj, done, hvs, hdone⟩ := hp
    k_steps
    unfold Stop
    refine ClE.use (varint_cl (w := w) (p := p) (loose := loose) (mean := mean) (mg := mg) (mb := mb) (ch x) ys hys l' q' D (listOf vs.toArray k) j n l1 l2 (by rw [ch_len]; exact hx)) B F5 X N5 T XB TB (by assumption) rfl (by lia) (by lia) ?_ ?_
    · rintro v nw h6 tk6 ⟨j', xv, t6, hv, hjj, hj', rfl, rfl⟩ F6 N6
      have hvl : vs.length ≤ 2000 := by
        have h1 := hvs.length
        have h2 := congrArg List.length hdone
        have h3 := readAll_len _ (ch x) (Nat.le_refl _)
        have h4 := ch_len x
        simp at h1 h2
        lia
      k_steps
      unfold Stop
      (((refine' ksw_end (_, _, _) (by assumption) (by assumption) (fun _ hp => by simpa using hp) trivial ?hk ?hr ?hp ?hm); (case hk => (refine List.forall_mem_cons.mpr ⟨?_, List.forall_mem_cons.mpr ⟨?_, List.forall_mem_nil _⟩⟩ <;> (dsimp only; exact rfl))); (case hr => ksw_same)))
      case hp =>
        refine ⟨hj', done ++ [xv], ?_, ?_⟩
        · rw [List.map_append]; exact IntsAre.append hvs (.cons _ _ .nil)
        · rw [hdone, readAll_some hv]; simp
      case hm => dsimp only; lia
    · rintro e nw G h6 tk6 ⟨hv, rfl⟩ F6 R6 U6
      refine caught_top (T' := "StopIteration") h1p h3p R6 F6 B U6 XB TB (by assumption) KtsTurn.refl (by k_is) (by boot_by_name) (by decide) si_isExc si_notTuple isSubtype_stop ?_ (by rfl) (by rfl) (by decide)
      intro h7 g7 T7 F7 N7
      k_steps
      refine ⟨_, _, _, _, _, _, rfl, T7, ⟨l', k, vs, rfl, rfl, ?_⟩, F7, N7⟩
      rw [hdone, readAll_none hv, List.append_nil]
      exact hvs
end
end
end Mine
-- text I1b
namespace Mine
open PySem.Calls PySem.Spec
set_option maxRecDepth 100000
set_option maxHeartbeats 8000000
abbrev tupOf (vs : List Value) (n : Nat) : Obj := { cls := .type "tuple", data := .seq vs.toArray n }
theorem fm {a b : Int} (h : 0 < b) : 0 ≤ a.fmod b ∧ a.fmod b < b := ⟨Int.fmod_nonneg_of_pos a h, Int.fmod_lt_of_pos a h⟩
section
variable {prog : Program} {w : World} {A : Around} {E : Value → Shared → Prop} {s : Shared} {h₀ : Heap} {L : Addr} {news : List (Addr × Obj)}
theorem getTupInts {D : Addr} {vs : List Value} {n : Nat} {ns : List Int} {i : Int} {u : Tok} {Q : Value → Shared → Prop} (N : News h₀ L s.heap news) (hm : (D, tupOf vs n) ∈ news) (hi : IntsAre vs ns) (h0 : 0 ≤ i) (h1 : i < ns.length) (hl : ns.length ≤ 1000)
    (h : ∀ t, Q (.int (ns.getD i.toNat 0) t) s) : wpAny (model prog w) A (getItem (.ref D) (.int i u)) Q E s := by
  have hlen := hi.length
  have hb : i.toNat < vs.length := by lia
  obtain ⟨k, t, e, hk⟩ := IntsAre.at hi i.toNat vs[i.toNat] (by simp [hb])
  have hg : ns.getD i.toNat 0 = k := by simp [List.getD, hk]
  refine getItem_tuple (j := i.toNat) (x := .int k t) (items := vs.toArray) ⟨_, (N _ hm).1, rfl, n, rfl⟩ (by lia) (by lia) (seqIndex_of h0 (by simp; lia)) (by simp [hb, e]) (hg ▸ h t)
theorem subTupInts {value slice : Expr} {D : Addr} {vs : List Value} {n : Nat} {ns : List Int} {i : Int} {u : Tok} {Q : Value → Shared → Prop} (N : News h₀ L s.heap news) (hm : (D, tupOf vs n) ∈ news) (hi : IntsAre vs ns) (h0 : 0 ≤ i) (h1 : i < ns.length) (hl : ns.length ≤ 1000)
    (h : ∀ t, Q (.int (ns.getD i.toNat 0) t) s) (hs : subscripted slice false (.ref D) (.int i u) = operate [.ref D, .int i u] (getItem (.ref D) (.int i u))) :
    wpAny (model prog w) A (subscriptTail value slice (.ref D) (.int i u)) Q E s :=
  tail_any (T := "tuple") ⟨_, (N _ hm).1, rfl⟩ slot_tuple_getitem.lookup (getTupInts N hm hi h0 h1 hl h) hs
end
end Mine
-- text F3b
namespace Mine
open PySem.Calls PySem.Spec
section
variable {prog : Program} {w : World} {A : Around} {E : Value → Shared → Prop} {s : Shared} {h₀ : Heap} {env : Env} {Q : Flow → Shared → Prop}
theorem asgN {M : Model} {m : Str → Option Value} {news : List (Addr × Obj)} {x : Str} {px : Pos} {v : Value} {Q : Unit → Shared → Prop} (F : Fr h₀ env.locals s.heap m) (N : News h₀ env.locals s.heap news) (hx : env.kindOf x = some .local)
    (hp : (env.scope.kind == .class || (env.scope.kind == .module && env.locals != env.globals)) = false)
    (h : ∀ h' tk, Fr h₀ env.locals h' (fun y => if y = x then some v else m y) → News h₀ env.locals h' news → Q () { s with heap := h', toks := tk }) : wpAny M A (assign (.Name x px) env v) Q E s :=
  wpAny_assign_Name (wpAny_storeName_local hx F.ns (fun h₂ hn₂ hs₂ => h h₂ _ (F.set hn₂ hs₂) (N.set hs₂)) hp)
end
end Mine
-- text L1b
namespace Mine
open PySem.Calls PySem.Spec
/-- what holds once the tokens are known to be as many as n -/
noncomputable def TokThen (n : Nat) (s : Shared) (P : Prop) : Prop := n ≤ s.toks → P
section
variable {prog : Program} {w : World} {A : Around} {E : Value → Shared → Prop} {s : Shared} {h₀ : Heap} {env : Env} {Q : Flow → Shared → Prop}
theorem execs_tk {M : Model} {n : Nat} {st : Stmt} {rest : List Stmt} (hn : n ≤ s.toks)
    (h : wpAny M A (exec st env) (fun f s' => TokThen n s' (match f with | .next => wpAny M A (execs rest env) Q E s' | f => Q f s')) E s) : wpAny M A (execs (st :: rest) env) Q E s :=
  wpAny_execs_cons (wpAny_with_toks hn (wpAny_mono h (fun _ _ x => x) (fun _ _ x _ => x)))
/-- a cut behind a statement -/
noncomputable def CutAt (R : Shared → Prop) (f : Flow) (s : Shared) : Prop := f = .next ∧ R s
theorem execs_cut {M : Model} {n : Nat} {st : Stmt} {rest : List Stmt} (R : Shared → Prop) (hn : n ≤ s.toks)
    (h1 : wpAny M A (exec st env) (fun f s' => CutAt R f s') E s) (h2 : ∀ s', n ≤ s'.toks → R s' → wpAny M A (execs rest env) Q E s') : wpAny M A (execs (st :: rest) env) Q E s :=
  execs_tk hn (wpAny_mono h1 (fun f s' q hs => by obtain ⟨rfl, hR⟩ := q; exact h2 s' hs hR) (fun _ _ x => x))
end
end Mine
-- text L2b
namespace Mine
open PySem.Calls PySem.Spec
section
variable {prog : Program} {w : World} {A : Around} {s : Shared} {h₀ : Heap} {env : Env} {L : Addr} {m : Str → Option Value}
end
end Mine
-- text PBb
namespace Mine
noncomputable def rd : Nat → List Nat → List Nat
  | _, [] => []
  | v, b :: r => if b / 64 % 2 = 1 then rd (v * 64 + b % 64) r else (v * 64 + b % 64) :: rd 0 r
theorem rd_readV : ∀ (l : List Nat) (v : Nat), rd v l = match readV v l with | none => [] | some (x, r) => x :: rd 0 r
  | [], v => rfl
  | b :: r, v => by
    rw [rd, readV]
    split
    · exact rd_readV r _
    · rfl
theorem readAll_rd : ∀ (n : Nat) (l : List Nat), l.length ≤ n → readAll l = rd 0 l := by
  intro n
  induction n with
  | zero => intro l h; have : l = [] := List.length_eq_zero_iff.mp (by lia); subst this; rw [readAll_none rfl]; rfl
  | succ n ih =>
    intro l h
    rw [rd_readV]
    cases e : readV 0 l with
    | none => rw [readAll_none e]
    | some x =>
      obtain ⟨v, r⟩ := x
      have h1 := readV_len e
      dsimp only at h1
      rw [readAll_some e]
      dsimp only
      rw [ih r (by lia)]
end Mine
-- text LNb
namespace Mine
open PySem.StrLaws PySem.Builtin PySem.Builtin.Str
noncomputable def isLB (c : Nat) : Bool := Unicode.isLineBreak c
/-- splitlines on a list of signs; cur: the line so far -/
noncomputable def lnL : List Nat → List Nat → List (List Nat)
  | cur, [] => if cur = [] then [] else [cur]
  | cur, c :: r => if isLB c = true then cur :: (if c = 13 ∧ r.head? = some 10 then lnL [] r.tail else lnL [] r) else lnL (cur ++ [c]) r
termination_by _ l => l.length
decreasing_by all_goals (simp [List.length_tail]; try lia)
theorem lnL_nil (cur : List Nat) : lnL cur [] = if cur = [] then [] else [cur] := by rw [lnL]
theorem lnL_cons (cur : List Nat) (c : Nat) (r : List Nat) : lnL cur (c :: r) = if isLB c = true then cur :: (if c = 13 ∧ r.head? = some 10 then lnL [] r.tail else lnL [] r) else lnL (cur ++ [c]) r := by rw [lnL]
noncomputable def spanC (x : PySem.Str) (p : Nat × Nat × Nat) : List Nat := ch (strSub x p.1 p.2.1)
theorem sub_ch (x : PySem.Str) (i j : Nat) : ch (strSub x i j) = ((ch x).drop i).take (j - i) := by
  simp [ch, strSub, List.extract_eq_take_drop]
theorem drop_get {x : PySem.Str} {i : Nat} (h : i < x.length) : (ch x).drop i = x.cps.getD i 0 :: (ch x).drop (i + 1) := by
  have hl := ch_len x
  rw [List.drop_eq_getElem_cons (by lia)]
  congr 1
  simp [ch, Array.getD, show i < x.cps.size from h]
theorem next_head {x : PySem.Str} {i : Nat} : (x.cps[i + 1]? == some 10) = decide (((ch x).drop (i + 1)).head? = some 10) := by
  rw [List.head?_drop]
  have : (ch x)[i + 1]? = x.cps[i + 1]? := by simp [ch]
  rw [this, Bool.eq_iff_iff]; simp
theorem ln_run (x : PySem.Str) : ∀ (m cur : Nat) (st : LsSt), cur + m = x.length → st.snd ≤ cur + 1 → (st.snd = cur + 1 → st.snd ≤ x.length) →
    (lsEnd x (Id.run (forIn (m := Id) (List.range' cur m) st (lsBody x)))).map (spanC x) = st.fst.toList.map (spanC x) ++ (if st.snd ≤ cur then lnL (((ch x).drop st.snd).take (cur - st.snd)) ((ch x).drop cur) else lnL [] ((ch x).drop (cur + 1)))
  | 0, cur, (lines, start), hm, h1, h2 => by
    have hl := ch_len x
    have e0 : (ch x).drop cur = [] := List.drop_eq_nil_of_le (by lia)
    show (lsEnd x (lines, start)).map (spanC x) = _
    unfold lsEnd
    dsimp only at h1 h2 ⊢
    have hs : start ≤ cur := by lia
    rw [if_pos hs, e0, lnL_nil]
    by_cases h : start < x.length
    · rw [if_pos h, if_neg]
      · rw [Array.toList_push, List.map_append]
        congr 1
        show [spanC x (start, x.length, x.length)] = _
        unfold spanC
        rw [sub_ch, show cur = x.length by lia]
      · intro q
        have := congrArg List.length q
        simp only [List.length_take, List.length_drop, List.length_nil] at this
        lia
    · rw [if_neg h, if_pos]
      · simp
      · apply List.eq_nil_of_length_eq_zero
        simp only [List.length_take, List.length_drop]; lia
  | m + 1, cur, (lines, start), hm, h1, h2 => by
    have hl := ch_len x
    have hb := lsNext_bounds x cur
    have hcur : cur < x.length := by lia
    rw [List.range'_succ, List.forIn_cons]
    unfold lsBody
    dsimp only at h1 h2 ⊢
    by_cases hc : (decide (start ≤ cur) && Unicode.isLineBreak (x.cps.getD cur 0)) = true
    · have hle : start ≤ cur ∧ Unicode.isLineBreak (x.cps.getD cur 0) = true := by simpa using hc
      simp only [hc, if_true]
      refine (ln_run x m (cur + 1) (lines.push (start, cur, lsNext x cur), lsNext x cur) (by lia) (by dsimp only; lia) ?_).trans ?_
      · dsimp only
        intro q
        unfold lsNext at q
        split at q
        · rename_i hq
          rw [Bool.and_eq_true] at hq
          have := hq.2
          have : x.cps[cur + 1]? = some 10 := by simpa using this
          have hlt := (Array.getElem?_eq_some_iff.mp this).1
          have : cur + 1 < x.length := hlt
          unfold lsNext; split <;> lia
        · lia
      · dsimp only
        rw [if_pos hle.1, drop_get hcur, lnL_cons, if_pos (show isLB (x.cps.getD cur 0) = true from hle.2), Array.toList_push, List.map_append, List.append_assoc]
        congr 1
        have e1 : (([(start, cur, lsNext x cur)] : List (Nat × Nat × Nat)).map (spanC x)) = [((ch x).drop start).take (cur - start)] := by
          simp [spanC, sub_ch]
        rw [e1, List.singleton_append]
        congr 1
        unfold lsNext
        by_cases hq : (x.cps.getD cur 0 == 13 && x.cps[cur + 1]? == some 10) = true
        · rw [if_pos hq, if_neg (by lia), if_pos]
          · rw [List.tail_drop]
          · rw [Bool.and_eq_true, next_head, beq_iff_eq, decide_eq_true_eq] at hq; exact hq
        · rw [if_neg hq, if_pos (Nat.le_refl _), if_neg]
          · simp
          · rw [Bool.and_eq_true, next_head, beq_iff_eq, decide_eq_true_eq] at hq; exact hq
    · simp only [hc, if_false, Bool.false_eq_true]
      refine (ln_run x m (cur + 1) (lines, start) (by lia) (by dsimp only; lia) (by dsimp only; lia)).trans ?_
      dsimp only
      congr 1
      rw [if_pos (by lia)]
      by_cases hs : start ≤ cur
      · have hn : isLB (x.cps.getD cur 0) = false := by
          unfold isLB
          simpa [hs] using hc
        rw [if_pos hs, drop_get hcur, lnL_cons, if_neg (by rw [hn]; exact Bool.false_ne_true)]
        congr 1
        rw [show cur + 1 - start = (cur - start) + 1 by lia, List.take_add_one, List.getElem?_drop, show start + (cur - start) = cur by lia]
        have : (ch x)[cur]? = some (x.cps.getD cur 0) := by simp [ch, Array.getD, show cur < x.cps.size from hcur]
        rw [this]; rfl
      · rw [if_neg hs, show cur + 1 - start = 0 by lia]; simp
theorem lines_ch (x : PySem.Str) : (Txt.lines x).map ch = lnL [] (ch x) := by
  have key := ln_run x x.length 0 ((#[], 0) : LsSt) (by lia) (by decide) (by intro q; cases q)
  rw [← ls_eq] at key
  have e : linesOf x = (lineSpans x).map fun (p : Nat × Nat × Nat) => strSub x p.1 p.2.1 := by
    unfold linesOf lineCuts
    rw [List.map_map]
    apply List.map_congr_left
    intro ⟨i, j, k⟩ _
    rfl
  have k2 : (linesOf x).map ch = lnL [] (ch x) := by
    rw [e, List.map_map]
    have k3 : (lineSpans x).map (spanC x) = lnL [] (ch x) := by simpa using key
    exact k3
  unfold Txt.lines
  split
  · rename_i h
    rw [← k2]
    have hl : linesOf x = [strSub x 0 x.length] := by
      unfold linesOf
      rw [beq_iff_eq.mp h]; rfl
    rw [hl, List.map_cons, List.map_nil, List.map_cons, List.map_nil, sub_ch]
    rw [List.drop_zero, Nat.sub_zero, ← ch_len x, List.take_length]
  · exact k2
end Mine
-- text PAb
namespace Mine
noncomputable def encX (t : List Nat) : List Nat := t.flatMap encC
theorem encX_nil : encX [] = [] := rfl
theorem encX_cons (c : Nat) (t : List Nat) : encX (c :: t) = encC c ++ encX t := rfl
theorem encX_app (s t : List Nat) : encX (s ++ t) = encX s ++ encX t := by simp [encX]
theorem hexDig_ne (d : Nat) (h : d < 16) : hexDig d ≠ 61 ∧ isHex (hexDig d) = true ∧ hexv (hexDig d) = d ∧ isLB (hexDig d) = false ∧ Unicode.isSpace (hexDig d) = false ∧ hexDig d ≠ 10 ∧ hexDig d ≠ 13 ∧ hexDig d ≠ 32 ∧ hexDig d ≠ 9 := by
  have : ∀ d : Fin 16, hexDig d.val ≠ 61 ∧ isHex (hexDig d.val) = true ∧ hexv (hexDig d.val) = d.val ∧ isLB (hexDig d.val) = false ∧ Unicode.isSpace (hexDig d.val) = false ∧ hexDig d.val ≠ 10 ∧ hexDig d.val ≠ 13 ∧ hexDig d.val ≠ 32 ∧ hexDig d.val ≠ 9 := by decide +kernel
  exact this ⟨d, h⟩
theorem encC_plain {c : Nat} (h : plainC c = true) : encC c = [c] := by unfold encC; rw [if_pos h]
theorem encC_quote {c : Nat} (h : plainC c = false) : encC c = quoteL c := by unfold encC quoteL; rw [if_neg (by rw [h]; exact Bool.false_ne_true)]
theorem plain_facts {c : Nat} (hc : c < 256) (h : plainC c = true) : c ≠ 61 ∧ (c ≠ 10 → c ≠ 13 → isLB c = false) ∧ (c ≠ 10 → c ≠ 13 → c ≠ 32 → c ≠ 9 → Unicode.isSpace c = false) := by
  have : ∀ c : Fin 256, plainC c.val = true → c.val ≠ 61 ∧ (c.val ≠ 10 → c.val ≠ 13 → isLB c.val = false) ∧ (c.val ≠ 10 → c.val ≠ 13 → c.val ≠ 32 → c.val ≠ 9 → Unicode.isSpace c.val = false) := by decide +kernel
  exact this ⟨c, hc⟩ h
theorem decL_quote {e r : List Nat} {c : Nat} (hc : c < 256) : decL e (quoteL c ++ r) = c :: (if r = [] then e else decL e r) := by
  have h1 := hexDig_ne (c / 16) (by lia)
  have h2 := hexDig_ne (c % 16) (by lia)
  show decL e (61 :: hexDig (c / 16) :: hexDig (c % 16) :: r) = _
  rw [decL_hex h1.2.1 h2.2.1, h1.2.2.1, h2.2.2.1]
  congr 1; lia
theorem decL_enc {e r : List Nat} {c : Nat} (hc : c < 256) : decL e (encC c ++ r) = c :: (if r = [] then e else decL e r) := by
  by_cases h : plainC c = true
  · rw [encC_plain h, List.singleton_append, decL_plain (plain_facts hc h).1]
  · rw [encC_quote (by simpa using h), decL_quote hc]
theorem encC_ne (c : Nat) : encC c ≠ [] := by unfold encC; split <;> simp
theorem encX_ne {t : List Nat} (h : t ≠ []) : encX t ≠ [] := by
  cases t with
  | nil => exact absurd rfl h
  | cons c r => rw [encX_cons]; intro q; exact encC_ne c (List.append_eq_nil_iff.mp q).1
theorem decL_encX {e s : List Nat} (hs : s ≠ []) : ∀ t : List Nat, (∀ c ∈ t, c < 256) → decL e (encX t ++ s) = t ++ decL e s
  | [], _ => rfl
  | c :: t, h => by
    rw [encX_cons, List.append_assoc, decL_enc (h c List.mem_cons_self), if_neg (by intro q; exact hs (List.append_eq_nil_iff.mp q).2), decL_encX hs t (fun d hd => h d (List.mem_cons_of_mem _ hd))]
    rfl
theorem decL_encX0 {e : List Nat} : ∀ t : List Nat, t ≠ [] → (∀ c ∈ t, c < 256) → decL e (encX t) = t ++ e
  | [], h, _ => absurd rfl h
  | [c], _, h => by
    have := decL_enc (e := e) (r := []) (h c List.mem_cons_self)
    simp [encX] at this ⊢; exact this
  | c :: d :: t, _, h => by
    rw [encX_cons, decL_enc (h c List.mem_cons_self), if_neg (encX_ne (by simp)), decL_encX0 (d :: t) (by simp) (fun x hx => h x (List.mem_cons_of_mem _ hx))]
    rfl
/-- cutting the encoded line -/
theorem tokSplit : ∀ (t : List Nat) (j : Nat), (∀ c ∈ t, c < 256) → j ≤ (encX t).length → (∃ t1 t2, t = t1 ++ t2 ∧ encX t1 = (encX t).take j ∧ encX t2 = (encX t).drop j) ∨
    (((1 ≤ j ∧ (encX t).getD (j - 1) 0 = 61) ∨ (2 ≤ j ∧ (encX t).getD (j - 2) 0 = 61)) ∧ (encX t).getD j 0 ≠ 61)
  | [], j, _, hj => .inl ⟨[], [], rfl, by simp [encX], by simp [encX]⟩
  | c :: t, 0, _, _ => .inl ⟨[], c :: t, rfl, by simp [encX], by simp⟩
  | c :: t, j + 1, h, hj => by
    have hc := h c List.mem_cons_self
    have ht : ∀ d ∈ t, d < 256 := fun d hd => h d (List.mem_cons_of_mem _ hd)
    by_cases hp : plainC c = true
    · rw [encX_cons, encC_plain hp, List.singleton_append] at hj ⊢
      rcases tokSplit t j ht (by simpa using hj) with ⟨t1, t2, rfl, e1, e2⟩ | ⟨h1, h2⟩
      · exact .inl ⟨c :: t1, t2, rfl, by rw [encX_cons, encC_plain hp, e1]; rfl, by rw [e2]; rfl⟩
      · refine .inr ⟨?_, by simpa using h2⟩
        rcases h1 with ⟨a, b⟩ | ⟨a, b⟩
        · left; refine ⟨by lia, ?_⟩
          obtain ⟨i, rfl⟩ : ∃ i, j = i + 1 := ⟨j - 1, by lia⟩
          simpa using b
        · right; refine ⟨by lia, ?_⟩
          obtain ⟨i, rfl⟩ : ∃ i, j = i + 2 := ⟨j - 2, by lia⟩
          simpa using b
    · have hq : encC c = [61, hexDig (c / 16), hexDig (c % 16)] := encC_quote (by simpa using hp)
      have f1 := (hexDig_ne (c / 16) (by lia)).1
      have f2 := (hexDig_ne (c % 16) (by lia)).1
      rw [encX_cons, hq] at hj ⊢
      match j, hj with
      | 0, _ => exact .inr ⟨.inl ⟨by lia, by simp⟩, by simpa using f1⟩
      | 1, _ => exact .inr ⟨.inr ⟨by lia, by simp⟩, by simpa using f2⟩
      | j + 2, hj =>
        rcases tokSplit t j ht (by simp at hj; lia) with ⟨t1, t2, rfl, e1, e2⟩ | ⟨h1, h2⟩
        · exact .inl ⟨c :: t1, t2, rfl, by rw [encX_cons, hq, e1]; rfl, by rw [e2]; rfl⟩
        · refine .inr ⟨?_, by simpa using h2⟩
          rcases h1 with ⟨a, b⟩ | ⟨a, b⟩
          · left; refine ⟨by lia, ?_⟩
            obtain ⟨i, rfl⟩ : ∃ i, j = i + 1 := ⟨j - 1, by lia⟩
            simpa using b
          · right; refine ⟨by lia, ?_⟩
            obtain ⟨i, rfl⟩ : ∃ i, j = i + 2 := ⟨j - 2, by lia⟩
            simpa using b
theorem getD_take {l : List Nat} {j : Nat} (h : j < l.length) : l.take (j + 1) = l.take j ++ [l.getD j 0] := by
  rw [List.take_add_one]; simp [List.getD, h]
/-- the pieces of one line -/
theorem encW_tok (K : Nat) (hK : 3 ≤ K) : ∀ (n : Nat) (t : List Nat), (encX t).length ≤ n → (∀ c ∈ t, c < 256) → ∃ (ts : List (List Nat)) (tl : List Nat), t = ts.flatten ++ tl ∧ (encW K (encX t)).1 = ts.map (fun s => encX s ++ [61]) ∧ (encW K (encX t)).2 = encX tl ∧ (t ≠ [] → tl ≠ []) := by
  intro n
  induction n with
  | zero =>
    intro t hn _
    have : t = [] := by
      cases t with
      | nil => rfl
      | cons c r => exact absurd (List.length_eq_zero_iff.mp (by lia)) (encX_ne (t := c :: r) (by simp))
    subst this
    refine ⟨[], [], rfl, ?_, ?_, fun h => h⟩ <;> (rw [encW_0 (by simp [encX])])
    · rfl
  | succ n ih =>
    intro t hn ht
    by_cases hlen : K + 2 ≤ (encX t).length
    · have step : ∀ (j : Nat) (p : List Nat), j + 2 ≤ (encX t).length → 1 ≤ j → (∃ t1 t2, t = t1 ++ t2 ∧ encX t1 = (encX t).take j ∧ encX t2 = (encX t).drop j) → p = (encX t).take j ++ [61] →
          encW K (encX t) = (p :: (encW K ((encX t).drop j)).1, (encW K ((encX t).drop j)).2) →
          ∃ (ts : List (List Nat)) (tl : List Nat), t = ts.flatten ++ tl ∧ (encW K (encX t)).1 = ts.map (fun s => encX s ++ [61]) ∧ (encW K (encX t)).2 = encX tl ∧ (t ≠ [] → tl ≠ []) := by
        rintro j p hj hj1 ⟨t1, t2, rfl, e1, e2⟩ hp he
        have ht2 : t2 ≠ [] := by
          rintro rfl
          have := congrArg List.length e2
          rw [encX_nil, List.length_drop, List.length_nil] at this
          lia
        obtain ⟨ts, tl, h1, h2, h3, h4⟩ := ih t2 (by rw [e2, List.length_drop]; lia) (fun c hc => ht c (List.mem_append.mpr (.inr hc)))
        refine ⟨t1 :: ts, tl, ?_, ?_, ?_, fun _ => h4 ht2⟩
        · rw [List.flatten_cons, List.append_assoc, ← h1]
        · rw [he, ← e2, h2, hp, ← e1]; rfl
        · rw [he, ← e2, h3]
      by_cases a1 : (encX t).getD (K - 2) 0 = 61
      · refine step (K - 2) _ (by lia) (by lia) ?_ ?_ (encW_1 hlen hK a1)
        · rcases tokSplit t (K - 2) ht (by lia) with h | ⟨_, h⟩
          · exact h
          · exact absurd a1 h
        · rw [show K - 1 = (K - 2) + 1 by lia, getD_take (by lia), a1]
      · by_cases a2 : (encX t).getD (K - 1) 0 = 61
        · refine step (K - 1) _ (by lia) (by lia) ?_ ?_ (encW_2 hlen hK a1 a2)
          · rcases tokSplit t (K - 1) ht (by lia) with h | ⟨_, h⟩
            · exact h
            · exact absurd a2 h
          · rw [show (encX t).take K = (encX t).take ((K - 1) + 1) by congr 1; lia, getD_take (by lia), a2]
        · refine step K _ hlen (by lia) ?_ rfl (encW_3 hlen hK a1 a2)
          rcases tokSplit t K ht (by lia) with h | ⟨h, _⟩
          · exact h
          · rcases h with ⟨_, h⟩ | ⟨_, h⟩
            · exact absurd h a2
            · exact absurd h a1
    · refine ⟨[], t, rfl, ?_, ?_, fun h => h⟩ <;> rw [encW_0 hlen]
      rfl
end Mine
-- text PCb
namespace Mine
theorem joinL_app (e : List Nat) : ∀ (a b : List (List Nat)), a ≠ [] → b ≠ [] → joinL e (a ++ b) = joinL e a ++ e ++ joinL e b
  | [], _, h, _ => absurd rfl h
  | [x], [], _, h => absurd rfl h
  | [x], y :: r, _, _ => rfl
  | x :: y :: r, b, _, hb => by
    show x ++ e ++ joinL e (y :: r ++ b) = x ++ e ++ joinL e (y :: r) ++ e ++ joinL e b
    rw [joinL_app e (y :: r) b (by simp) hb]
    simp
theorem joinL_flat (e : List Nat) : ∀ (L : List (List (List Nat))), (∀ q ∈ L, q ≠ []) → joinL e (L.map (joinL e)) = joinL e L.flatten
  | [], _ => rfl
  | [q], _ => by simp [joinL]
  | q :: q' :: r, h => by
    have ih := joinL_flat e (q' :: r) (fun x hx => h x (List.mem_cons_of_mem _ hx))
    show joinL e q ++ e ++ joinL e ((q' :: r).map (joinL e)) = joinL e (q ++ (q' :: r).flatten)
    rw [ih, joinL_app e q _ (h q List.mem_cons_self)]
    intro hn
    rw [List.flatten_cons] at hn
    exact h q' (by simp) (List.append_eq_nil_iff.mp hn).1
abbrev blankLast (l : List Nat) : Prop := l ≠ [] ∧ (l.getD (l.length - 1) 0 = 32 ∨ l.getD (l.length - 1) 0 = 9)
noncomputable def subLast (k : Nat) (l r : List Nat) : List (List Nat) :=
  if blankLast l then
    (if r.length + 1 ≤ k then [r.take (r.length - 1) ++ quoteL (l.getD (l.length - 1) 0)] else if r.length = k then [r.take (r.length - 1) ++ [l.getD (l.length - 1) 0, 61], []] else [r.take (r.length - 1) ++ [61], quoteL (l.getD (l.length - 1) 0)])
  else [r]
noncomputable def subLine (k : Nat) (l : List Nat) : List (List Nat) := (encW k l).1 ++ subLast k l (encW k l).2
theorem subLast_ne (k : Nat) (l r : List Nat) : subLast k l r ≠ [] := by
  unfold subLast; split
  · split
    · simp
    · split <;> simp
  · simp
theorem encLast_sub (k : Nat) (e l r : List Nat) : encLast k e l r = joinL e (subLast k l r) := by
  unfold encLast subLast
  by_cases h : blankLast l
  · rw [if_pos h, if_pos h]
    split
    · rfl
    · split
      · simp [joinL]
      · simp [joinL]
  · rw [if_neg h, if_neg h]; rfl
noncomputable def subsL (k : Nat) (ls : List (List Nat)) : List (List (List Nat)) := (ls.map fun l => (encW k l).1.map (fun p => [p]) ++ [subLast k l (encW k l).2]).flatten
theorem subsL_ne (k : Nat) (ls : List (List Nat)) : ∀ q ∈ subsL k ls, q ≠ [] := by
  intro q hq
  unfold subsL at hq
  obtain ⟨m, hm, hqm⟩ := List.mem_flatten.mp hq
  obtain ⟨l, _, rfl⟩ := List.mem_map.mp hm
  rcases List.mem_append.mp hqm with h | h
  · obtain ⟨p, _, rfl⟩ := List.mem_map.mp h
    simp
  · rw [List.mem_singleton.mp h]; exact subLast_ne _ _ _
theorem subsL_flat (k : Nat) (ls : List (List Nat)) : (subsL k ls).flatten = (ls.map (subLine k)).flatten := by
  unfold subsL subLine
  induction ls with
  | nil => rfl
  | cons l r ih =>
    rw [List.map_cons, List.flatten_cons, List.flatten_append, ih, List.map_cons, List.flatten_cons]
    congr 1
    rw [List.flatten_append]
    congr 1
    · generalize (encW k l).1 = ps
      induction ps with
      | nil => rfl
      | cons a b ih => rw [List.map_cons, List.flatten_cons, ih]; rfl
    · simp
theorem encLine_sub (k : Nat) (e l : List Nat) : encLine k e l = ((encW k l).1.map (fun p => [p]) ++ [subLast k l (encW k l).2]).map (joinL e) := by
  unfold encLine
  rw [List.map_append, encLast_sub, List.map_map]
  congr 1
  exact (List.map_id' _).symm
abbrev closed (x : List Nat) : Prop := x.getD (x.length - 1) 0 = 13 ∨ x.getD (x.length - 1) 0 = 10
/-- the letter's own lines -/
noncomputable def subs (k : Nat) (x : List Nat) : List (List Nat) := ((lnL [] x).map (subLine k)).flatten ++ (if closed x then [[]] else [])
theorem encF_subs (k : Nat) (e t : List Nat) : encF k e t = joinL e (subs k (encX t)) := by
  unfold encF encPieces
  show joinL e (((Txt.lines ⟨(encX t).toArray⟩).map fun l => encLine k e (ch l)).flatten ++ if closed (encX t) then [[]] else []) = _
  have h1 : ((Txt.lines ⟨(encX t).toArray⟩).map fun l => encLine k e (ch l)) = (lnL [] (encX t)).map fun l => ((encW k l).1.map (fun p => [p]) ++ [subLast k l (encW k l).2]).map (joinL e) := by
    have := lines_ch ⟨(encX t).toArray⟩
    rw [show ch ⟨(encX t).toArray⟩ = encX t by simp [ch]] at this
    rw [← this, List.map_map]
    apply List.map_congr_left
    intro l _
    exact encLine_sub k e (ch l)
  have h2 : ((lnL [] (encX t)).map fun l => ((encW k l).1.map (fun p => [p]) ++ [subLast k l (encW k l).2]).map (joinL e)).flatten = (subsL k (lnL [] (encX t))).map (joinL e) := by
    unfold subsL
    rw [List.map_flatten, List.map_map]
    rfl
  rw [h1, h2]
  have h3 : (subsL k (lnL [] (encX t))).map (joinL e) ++ (if closed (encX t) then [[]] else []) = (subsL k (lnL [] (encX t)) ++ if closed (encX t) then [[[]]] else []).map (joinL e) := by
    rw [List.map_append]; split <;> rfl
  rw [h3, joinL_flat]
  · unfold subs
    rw [List.flatten_append, subsL_flat]
    split <;> rfl
  · intro q hq
    rcases List.mem_append.mp hq with h | h
    · exact subsL_ne _ _ q h
    · split at h
      · rw [List.mem_singleton.mp h]; simp
      · cases h
end Mine
-- text PDb
namespace Mine
theorem snoc_of {l : List Nat} (h : l ≠ []) : ∃ a c, l = a ++ [c] := ⟨l.dropLast, l.getLast h, (List.dropLast_concat_getLast h).symm⟩
theorem lnL_app {r : List Nat} : ∀ (s cur : List Nat), (∀ c ∈ s, isLB c = false) → lnL cur (s ++ r) = lnL (cur ++ s) r
  | [], cur, _ => by simp
  | c :: s, cur, h => by
    rw [List.cons_append, lnL_cons, if_neg (by rw [h c List.mem_cons_self]; exact Bool.false_ne_true), lnL_app s _ (fun d hd => h d (List.mem_cons_of_mem _ hd))]
    simp
abbrev EndOk (e : List Nat) : Prop := e = [10] ∨ e = [13, 10] ∨ e = [13]
theorem lb10 : isLB 10 = true := by decide +kernel
theorem lb13 : isLB 13 = true := by decide +kernel
theorem lnL_end {e r cur : List Nat} (he : EndOk e) (hr : e = [13] → r.head? ≠ some 10) : lnL cur (e ++ r) = cur :: lnL [] r := by
  rcases he with rfl | rfl | rfl
  · rw [List.singleton_append, lnL_cons, if_pos lb10, if_neg (by simp)]
  · rw [List.cons_append, lnL_cons, if_pos lb13, if_pos (by simp)]; rfl
  · rw [List.singleton_append, lnL_cons, if_pos lb13, if_neg (fun q => hr rfl q.2)]
/-- a stripped line -/
noncomputable def rsL (l : List Nat) : List Nat := (l.reverse.dropWhile Unicode.isSpace).reverse
noncomputable def dL (e l : List Nat) : List Nat := if rsL l = [] then e else decL e (rsL l)
noncomputable def dp (e p : List Nat) : List Nat := if p = [] then e else decL e p
noncomputable def NoSp (p : List Nat) : Prop := ∀ q c, p = q ++ [c] → Unicode.isSpace c = false
theorem decPre_ln (e : List Nat) (x : Str) : decPre e (Txt.lines x) = ((lnL [] (ch x)).map (dL e)).flatten := by
  unfold decPre
  rw [← lines_ch, List.map_map]
  congr 1
  apply List.map_congr_left
  intro l _
  show decLine e l = dL e (ch l)
  unfold decLine dL
  rw [rstrip_ch]; rfl
theorem dropAll {p : List Nat} : ∀ {l : List Nat}, (∀ c ∈ l, Unicode.isSpace c = true) → (l ++ p).dropWhile Unicode.isSpace = p.dropWhile Unicode.isSpace
  | [], _ => rfl
  | c :: l, h => by
    rw [List.cons_append, List.dropWhile_cons, if_pos (h c List.mem_cons_self), dropAll (fun d hd => h d (List.mem_cons_of_mem _ hd))]
theorem rsL_pad {p pad : List Nat} (hpad : ∀ c ∈ pad, Unicode.isSpace c = true) (hp : NoSp p) : rsL (p ++ pad) = p := by
  unfold rsL
  rw [List.reverse_append, dropAll (fun c hc => hpad c (List.mem_reverse.mp hc))]
  by_cases h : p = []
  · subst h; rfl
  · obtain ⟨a, c, rfl⟩ := snoc_of h
    rw [List.reverse_append, List.reverse_singleton, List.singleton_append, List.dropWhile_cons, if_neg (by rw [hp a c rfl]; exact Bool.false_ne_true)]
    simp
theorem dL_pad {e p pad : List Nat} (hpad : ∀ c ∈ pad, Unicode.isSpace c = true) (hp : NoSp p) : dL e (p ++ pad) = dp e p := by
  unfold dL dp; rw [rsL_pad hpad hp]
theorem dL_self {e p : List Nat} (hp : NoSp p) : dL e p = dp e p := by
  have := dL_pad (e := e) (p := p) (pad := []) (fun c hc => nomatch hc) hp
  rwa [List.append_nil] at this
/-- the last sign -/
noncomputable def lastC (c : Nat) : Nat := if plainC c = true then c else hexDig (c % 16)
theorem encC_last (c : Nat) : ∃ a, encC c = a ++ [lastC c] := by
  unfold encC lastC
  by_cases h : plainC c = true
  · rw [if_pos h, if_pos h]; exact ⟨[], rfl⟩
  · rw [if_neg h, if_neg h]; exact ⟨[61, hexDig (c / 16)], rfl⟩
theorem encX_last (t : List Nat) (c : Nat) : ∃ a, encX (t ++ [c]) = a ++ [lastC c] := by
  obtain ⟨a, h⟩ := encC_last c
  exact ⟨encX t ++ a, by rw [encX_app, encX_cons, encX_nil, List.append_nil, h, List.append_assoc]⟩
theorem getD_last (a : List Nat) (c : Nat) : (a ++ [c]).getD ((a ++ [c]).length - 1) 0 = c := by simp [List.getD]
theorem lastC_blank {c : Nat} (hc : c < 256) : (lastC c = 32 ∨ lastC c = 9) ↔ (c = 32 ∨ c = 9) := by
  have : ∀ c : Fin 256, (lastC c.val = 32 ∨ lastC c.val = 9) ↔ (c.val = 32 ∨ c.val = 9) := by decide +kernel
  exact this ⟨c, hc⟩
theorem lastC_end {c : Nat} (hc : c < 256) : (lastC c = 13 ∨ lastC c = 10) ↔ (c = 13 ∨ c = 10) := by
  have : ∀ c : Fin 256, (lastC c.val = 13 ∨ lastC c.val = 10) ↔ (c.val = 13 ∨ c.val = 10) := by decide +kernel
  exact this ⟨c, hc⟩
theorem lastC_sp {c : Nat} (hc : c < 256) : c ≠ 10 → c ≠ 13 → c ≠ 32 → c ≠ 9 → Unicode.isSpace (lastC c) = false := by
  have : ∀ c : Fin 256, c.val ≠ 10 → c.val ≠ 13 → c.val ≠ 32 → c.val ≠ 9 → Unicode.isSpace (lastC c.val) = false := by decide +kernel
  exact this ⟨c, hc⟩
theorem encC_lb {c : Nat} (hc : c < 256) (h10 : c ≠ 10) (h13 : c ≠ 13) : ∀ d ∈ encC c, isLB d = false := by
  have : ∀ c : Fin 256, c.val ≠ 10 → c.val ≠ 13 → ∀ d ∈ encC c.val, isLB d = false := by decide +kernel
  exact this ⟨c, hc⟩ h10 h13
/-- signs of a line of the row -/
noncomputable def LineOk (t : List Nat) : Prop := ∀ c ∈ t, c < 256 ∧ c ≠ 10 ∧ c ≠ 13
theorem encX_lb : ∀ {t : List Nat}, LineOk t → ∀ d ∈ encX t, isLB d = false
  | [], _, d, hd => by cases hd
  | c :: t, h, d, hd => by
    rw [encX_cons] at hd
    rcases List.mem_append.mp hd with hd | hd
    · have := h c List.mem_cons_self
      exact encC_lb this.1 this.2.1 this.2.2 d hd
    · exact encX_lb (fun e he => h e (List.mem_cons_of_mem _ he)) d hd
theorem lb61 : isLB 61 = false := by decide +kernel
theorem nosp_snoc {a : List Nat} {c : Nat} (h : Unicode.isSpace c = false) : NoSp (a ++ [c]) := by
  intro q d e
  have := List.append_inj' e rfl
  rw [← List.singleton_inj.mp this.2]; exact h
theorem sp61 : Unicode.isSpace 61 = false := by decide +kernel
theorem dp_soft {e s : List Nat} (hs : ∀ c ∈ s, c < 256) : dp e (encX s ++ [61]) = s := by
  unfold dp
  rw [if_neg (by simp), decL_encX (by simp) s hs, decL_soft, List.append_nil]
noncomputable def PieceOk (p : List Nat) : Prop := (∀ c ∈ p, isLB c = false) ∧ NoSp p
theorem ok_soft {s : List Nat} (hs : LineOk s) : PieceOk (encX s ++ [61]) := by
  refine ⟨fun c hc => ?_, nosp_snoc sp61⟩
  rcases List.mem_append.mp hc with hc | hc
  · exact encX_lb hs c hc
  · rw [List.mem_singleton.mp hc]; exact lb61
end Mine
-- text PEb
namespace Mine
open PySem.StrLaws PySem.Builtin PySem.Builtin.Str
/-- the row's own lines -/
noncomputable def lnT : List Nat → List Nat → List (List Nat)
  | cur, [] => if cur = [] then [] else [cur]
  | cur, c :: r => if c = 13 ∨ c = 10 then cur :: (if c = 13 ∧ r.head? = some 10 then lnT [] r.tail else lnT [] r) else lnT (cur ++ [c]) r
termination_by _ l => l.length
decreasing_by all_goals (simp [List.length_tail]; try lia)
theorem lnT_nil (cur : List Nat) : lnT cur [] = if cur = [] then [] else [cur] := by rw [lnT]
theorem lnT_cons (cur : List Nat) (c : Nat) (r : List Nat) : lnT cur (c :: r) = if c = 13 ∨ c = 10 then cur :: (if c = 13 ∧ r.head? = some 10 then lnT [] r.tail else lnT [] r) else lnT (cur ++ [c]) r := by rw [lnT]
theorem tail_lt (r : List Nat) : r.tail.length ≤ r.length := by simp
theorem enc_head {r : List Nat} (h : ∀ c ∈ r, c < 256) : ((encX r).head? = some 10 ↔ r.head? = some 10) ∧ (r.head? = some 10 → (encX r).tail = encX r.tail) := by
  cases r with
  | nil => simp [encX]
  | cons d r =>
    rw [encX_cons]
    by_cases hp : plainC d = true
    · rw [encC_plain hp]; simp
    · rw [encC_quote (by simpa using hp)]
      have hd : d ≠ 10 := by rintro rfl; exact hp (by decide)
      constructor
      · simp [quoteL, hd]
      · intro q; simp at q; exact absurd q hd
theorem lnL_enc : ∀ (n : Nat) (t cur : List Nat), t.length ≤ n → (∀ c ∈ t, c < 256) → lnL (encX cur) (encX t) = (lnT cur t).map encX := by
  intro n
  induction n with
  | zero =>
    intro t cur h _
    have : t = [] := List.length_eq_zero_iff.mp (by lia)
    subst this
    rw [encX_nil, lnL_nil, lnT_nil]
    by_cases hc : cur = []
    · subst hc; rfl
    · rw [if_neg hc, if_neg (encX_ne hc)]; rfl
  | succ n ih =>
    intro t cur h ht
    cases t with
    | nil =>
      rw [encX_nil, lnL_nil, lnT_nil]
      by_cases hc : cur = []
      · subst hc; rfl
      · rw [if_neg hc, if_neg (encX_ne hc)]; rfl
    | cons c r =>
      have hr : ∀ d ∈ r, d < 256 := fun d hd => ht d (List.mem_cons_of_mem _ hd)
      have hl : r.length ≤ n := by simpa using h
      rw [encX_cons, lnT_cons]
      by_cases he : c = 13 ∨ c = 10
      · have hp : plainC c = true := by rcases he with rfl | rfl <;> decide
        have hlb : isLB c = true := by rcases he with rfl | rfl; exact lb13; exact lb10
        rw [encC_plain hp, List.singleton_append, lnL_cons, if_pos hlb, if_pos he, List.map_cons]
        congr 1
        have hh := enc_head hr
        by_cases hq : c = 13 ∧ r.head? = some 10
        · rw [if_pos ⟨hq.1, hh.1.mpr hq.2⟩, if_pos hq, hh.2 hq.2]
          exact ih r.tail [] (Nat.le_trans (tail_lt r) hl) (fun d hd => hr d (List.mem_of_mem_tail hd))
        · rw [if_neg (fun q => hq ⟨q.1, hh.1.mp q.2⟩), if_neg hq]
          exact ih r [] hl hr
      · rw [if_neg he, lnL_app _ _ (encC_lb (ht c List.mem_cons_self) (fun q => he (.inr q)) (fun q => he (.inl q)))]
        rw [← ih r (cur ++ [c]) hl hr, encX_app, encX_cons, encX_nil, List.append_nil]
theorem end_last {e : List Nat} (he : EndOk e) (a : List Nat) : (a ++ e).getD ((a ++ e).length - 1) 0 = 13 ∨ (a ++ e).getD ((a ++ e).length - 1) 0 = 10 := by
  rcases he with rfl | rfl | rfl
  · right; exact getD_last a 10
  · right
    have := getD_last (a ++ [13]) 10
    rw [List.append_assoc] at this; exact this
  · left; exact getD_last a 13
end Mine
-- text PFb
namespace Mine
open PySem.StrLaws PySem.Builtin PySem.Builtin.Str
end Mine
-- text S1b
namespace Mine
/-- a sign of the letter: an octet's, or a soft break -/
noncomputable def sg (e : List Nat) : Option Nat → List Nat
  | some c => encC c
  | none => 61 :: e
noncomputable def oc : Option Nat → List Nat
  | some c => [c]
  | none => []
noncomputable def flatT (e : List Nat) (L : List (Option Nat)) : List Nat := L.flatMap (sg e)
noncomputable def octT (L : List (Option Nat)) : List Nat := L.flatMap oc
theorem flatT_cons (e : List Nat) (t : Option Nat) (L : List (Option Nat)) : flatT e (t :: L) = sg e t ++ flatT e L := rfl
theorem flatT_app (e : List Nat) (A B : List (Option Nat)) : flatT e (A ++ B) = flatT e A ++ flatT e B := by simp [flatT]
theorem octT_cons (t : Option Nat) (L : List (Option Nat)) : octT (t :: L) = oc t ++ octT L := rfl
theorem octT_app (A B : List (Option Nat)) : octT (A ++ B) = octT A ++ octT B := by simp [octT]
noncomputable def TokOk (L : List (Option Nat)) : Prop := ∀ c, some c ∈ L → c < 256 ∧ c ≠ 10 ∧ c ≠ 13
theorem TokOk.tail {t : Option Nat} {L : List (Option Nat)} (h : TokOk (t :: L)) : TokOk L := fun c hc => h c (List.mem_cons_of_mem _ hc)
theorem encC_head {c : Nat} (h10 : c ≠ 10) (r : List Nat) : (encC c ++ r).head? ≠ some 10 := by
  unfold encC
  split
  · simpa using h10
  · simp
theorem flat_head {e tp : List Nat} (htp : tp.head? ≠ some 10) : ∀ {M : List (Option Nat)}, TokOk M → (flatT e M ++ tp).head? ≠ some 10
  | [], _ => htp
  | some c :: r, h => by
    rw [flatT_cons, List.append_assoc]
    exact encC_head (h c List.mem_cons_self).2.1 _
  | none :: r, _ => by rw [flatT_cons, List.append_assoc]; simp [sg]
/-- what stands ahead of the last soft break, and behind it -/
noncomputable def segs : List Nat → List (Option Nat) → List Nat × List Nat
  | s, [] => ([], s)
  | s, some c :: r => segs (s ++ [c]) r
  | s, none :: r => (s ++ (segs [] r).1, (segs [] r).2)
theorem segs_all : ∀ (M : List (Option Nat)) (s : List Nat), (segs s M).1 ++ (segs s M).2 = s ++ octT M
  | [], s => by simp [segs, octT]
  | some c :: r, s => by rw [segs, segs_all r, octT_cons]; simp [oc]
  | none :: r, s => by
    have := segs_all r []
    rw [segs, octT_cons]
    simp only [List.append_assoc, this]
    simp [oc]
theorem segs_ok : ∀ (M : List (Option Nat)) (s : List Nat), TokOk M → LineOk s → LineOk (segs s M).2
  | [], _, _, hs => hs
  | some c :: r, s, h, hs => by
    rw [segs]
    refine segs_ok r _ h.tail fun d hd => ?_
    rcases List.mem_append.mp hd with hd | hd
    · exact hs d hd
    · rw [List.mem_singleton.mp hd]; exact h c List.mem_cons_self
  | none :: r, s, h, _ => by
    rw [segs]
    exact segs_ok r [] h.tail (fun d hd => nomatch hd)
theorem lines_tok {e tp E : List Nat} (he : EndOk e) (htp : tp.head? ≠ some 10) : ∀ (M : List (Option Nat)) (s : List Nat), TokOk M → LineOk s →
    ((lnL (encX s) (flatT e M ++ tp)).map (dL E)).flatten = (segs s M).1 ++ ((lnL (encX (segs s M).2) tp).map (dL E)).flatten
  | [], s, _, _ => by simp [flatT, segs]
  | some c :: r, s, h, hs => by
    have hc := h c List.mem_cons_self
    rw [flatT_cons, List.append_assoc, segs, show sg e (some c) = encC c from rfl, lnL_app _ _ (encC_lb hc.1 hc.2.1 hc.2.2)]
    have e1 : encX s ++ encC c = encX (s ++ [c]) := by rw [encX_app, encX_cons, encX_nil, List.append_nil]
    rw [e1]
    refine lines_tok he htp r (s ++ [c]) h.tail fun d hd => ?_
    rcases List.mem_append.mp hd with hd | hd
    · exact hs d hd
    · rw [List.mem_singleton.mp hd]; exact hc
  | none :: r, s, h, hs => by
    rw [flatT_cons, segs, show sg e none = [61] ++ e from rfl, List.append_assoc, List.append_assoc, lnL_app [61] _ (fun c hc => by rw [List.mem_singleton.mp hc]; exact lb61)]
    rw [lnL_end he (fun _ => flat_head htp h.tail), List.map_cons, List.flatten_cons, dL_self (ok_soft hs).2, dp_soft (fun c hc => (hs c hc).1)]
    have := lines_tok (E := E) he htp r [] h.tail (fun d hd => nomatch hd)
    rw [encX_nil] at this
    rw [this, List.append_assoc]
/-- blanks at the end fall away -/
noncomputable def stripL (s : List Nat) : List Nat := (s.reverse.dropWhile (fun c => decide (c = 32 ∨ c = 9))).reverse
theorem stripL_blank {a : List Nat} {c : Nat} (h : c = 32 ∨ c = 9) : stripL (a ++ [c]) = stripL a := by
  unfold stripL
  rw [List.reverse_append, List.reverse_singleton, List.singleton_append, List.dropWhile_cons, if_pos (by simpa using h)]
theorem stripL_no {a : List Nat} {c : Nat} (h : ¬ (c = 32 ∨ c = 9)) : stripL (a ++ [c]) = a ++ [c] := by
  unfold stripL
  rw [List.reverse_append, List.reverse_singleton, List.singleton_append, List.dropWhile_cons, if_neg (by simpa using h)]
  simp
theorem rsL_sp {a : List Nat} {c : Nat} (h : Unicode.isSpace c = true) : rsL (a ++ [c]) = rsL a := by
  unfold rsL
  rw [List.reverse_append, List.reverse_singleton, List.singleton_append, List.dropWhile_cons, if_pos h]
theorem rsL_no {p : List Nat} (h : NoSp p) : rsL p = p := by
  have := rsL_pad (p := p) (pad := []) (fun c hc => nomatch hc) h
  rwa [List.append_nil] at this
theorem strip_enc : ∀ (n : Nat) (s : List Nat), s.length ≤ n → LineOk s → rsL (encX s) = encX (stripL s) ∧ (∃ b, s = stripL s ++ b)
  | 0, s, h, _ => by
    have : s = [] := List.length_eq_zero_iff.mp (by lia)
    subst this
    exact ⟨rfl, [], rfl⟩
  | n + 1, s, h, hs => by
    by_cases h0 : s = []
    · subst h0; exact ⟨rfl, [], rfl⟩
    · obtain ⟨a, c, rfl⟩ := snoc_of h0
      have hc := hs c (by simp)
      have ha : LineOk a := fun d hd => hs d (List.mem_append.mpr (.inl hd))
      by_cases hb : c = 32 ∨ c = 9
      · obtain ⟨h1, b, h2⟩ := strip_enc n a (by simp at h; lia) ha
        have hpl : plainC c = true := by rcases hb with rfl | rfl <;> decide
        have hsp : Unicode.isSpace c = true := by rcases hb with rfl | rfl <;> decide +kernel
        rw [stripL_blank hb, encX_app, encX_cons, encX_nil, encC_plain hpl, List.append_nil, rsL_sp hsp, h1]
        exact ⟨rfl, b ++ [c], by rw [← List.append_assoc, ← h2]⟩
      · obtain ⟨q, hq⟩ := encX_last a c
        rw [stripL_no hb, hq]
        exact ⟨rsL_no (nosp_snoc (lastC_sp hc.1 hc.2.1 hc.2.2 (fun q => hb (.inl q)) (fun q => hb (.inr q)))), [], by simp⟩
theorem strip_ok {s : List Nat} (hs : LineOk s) : LineOk (stripL s) := by
  obtain ⟨_, b, h⟩ := strip_enc _ s (Nat.le_refl _) hs
  intro c hc
  exact hs c (by rw [h]; exact List.mem_append.mpr (.inl hc))
/-- the piece's end -/
theorem tail0 {s : List Nat} (hs : LineOk s) : ((lnL (encX s) []).map (dL [10])).flatten = if s = [] then [] else stripL s ++ [10] := by
  rw [lnL_nil]
  by_cases h : s = []
  · subst h; simp [encX]
  · rw [if_neg (encX_ne h), if_neg h, List.map_cons, List.map_nil, List.flatten_cons, List.flatten_nil, List.append_nil]
    unfold dL
    rw [(strip_enc _ s (Nat.le_refl _) hs).1]
    by_cases h2 : stripL s = []
    · rw [h2]; simp [encX]
    · rw [if_neg (encX_ne h2), decL_encX0 _ h2 (fun c hc => (strip_ok hs c hc).1)]
theorem tail1 {s E : List Nat} (hs : LineOk s) : ((lnL (encX s) [61]).map (dL E)).flatten = s := by
  rw [lnL_cons, if_neg (by rw [lb61]; exact Bool.false_ne_true), lnL_nil, if_neg (by simp), List.map_cons, List.map_nil, List.flatten_cons, List.flatten_nil, List.append_nil, dL_self (ok_soft hs).2, dp_soft (fun c hc => (hs c hc).1)]
theorem tail2 {s E : List Nat} {h : Nat} (hs : LineOk s) (h1 : isLB h = false) (h2 : Unicode.isSpace h = false) (h3 : h ≠ 61) : ((lnL (encX s) [61, h]).map (dL E)).flatten = s ++ [61, h] ++ E := by
  have e1 : lnL (encX s) [61, h] = [encX s ++ [61, h]] := by
    have := lnL_app (r := []) [61, h] (encX s) (fun c hc => by
      simp only [List.mem_cons, List.not_mem_nil, or_false] at hc
      rcases hc with rfl | rfl
      · exact lb61
      · exact h1)
    rw [List.append_nil] at this
    rw [this, lnL_nil, if_neg (by simp)]
  rw [e1, List.map_cons, List.map_nil, List.flatten_cons, List.flatten_nil, List.append_nil, dL_self]
  · unfold dp
    rw [if_neg (by simp), decL_encX (by simp) s (fun c hc => (hs c hc).1)]
    simp [decL, h3]
  · rw [show encX s ++ [61, h] = (encX s ++ [61]) ++ [h] by simp]
    exact nosp_snoc h2
theorem tail3 {s E : List Nat} (hs : LineOk s) : ((lnL (encX s) [61, 13]).map (dL E)).flatten = s := by
  have : lnL (encX s) ([61] ++ [13]) = lnL (encX s ++ [61]) [13] := lnL_app [61] (encX s) (fun c hc => by rw [List.mem_singleton.mp hc]; exact lb61)
  show ((lnL (encX s) ([61] ++ [13])).map (dL E)).flatten = s
  rw [this, lnL_cons, if_pos lb13, if_neg (by simp), lnL_nil, if_pos rfl, List.map_cons, List.map_nil, List.flatten_cons, List.flatten_nil, List.append_nil, dL_self (ok_soft hs).2, dp_soft (fun c hc => (hs c hc).1)]
/-- how the text ends -/
theorem segs_end {e : List Nat} : ∀ (M : List (Option Nat)) (s : List Nat), ∃ a, encX s ++ flatT e M = a ++ encX (segs s M).2
  | [], s => ⟨[], by simp [flatT, segs]⟩
  | some c :: r, s => by
    obtain ⟨a, h⟩ := segs_end (e := e) r (s ++ [c])
    refine ⟨a, ?_⟩
    rw [segs, ← h, flatT_cons, encX_app, encX_cons, encX_nil]; simp [sg]
  | none :: r, s => by
    obtain ⟨a, h⟩ := segs_end (e := e) r []
    rw [encX_nil, List.nil_append] at h
    exact ⟨encX s ++ (61 :: e) ++ a, by rw [segs, flatT_cons, h]; simp [sg]⟩
theorem segs_nil {e : List Nat} : ∀ (M : List (Option Nat)) (s : List Nat), (segs s M).2 = [] → (M = [] ∧ s = []) ∨ ∃ a, flatT e M = a ++ e
  | [], s, h => .inl ⟨rfl, h⟩
  | some c :: r, s, h => by
    rw [segs] at h
    rcases segs_nil (e := e) r (s ++ [c]) h with ⟨_, h2⟩ | ⟨a, h2⟩
    · simp at h2
    · exact .inr ⟨encC c ++ a, by rw [flatT_cons, h2]; simp [sg]⟩
  | none :: r, s, h => by
    rw [segs] at h
    rcases segs_nil (e := e) r [] h with ⟨rfl, _⟩ | ⟨a, h2⟩
    · exact .inr ⟨[61], by simp [flatT, sg]⟩
    · exact .inr ⟨61 :: e ++ a, by rw [flatT_cons, h2]; simp [sg]⟩
end Mine
-- text S2b
namespace Mine
/-- a torn head -/
noncomputable def HeadOk (hp H s0 : List Nat) : Prop := (H = [] ∧ s0 = hp ∧ LineOk hp ∧ encX hp = hp ∧ (∀ c ∈ hp, c ≠ 32 ∧ c ≠ 9)) ∨ (H = [10] ∧ s0 = [] ∧ EndOk hp)
/-- a torn end -/
noncomputable def TailOk (tp TT : List Nat) : Prop := (tp = [] ∧ TT = []) ∨ (tp = [61] ∧ TT = []) ∨ (∃ h, tp = [61, h] ∧ TT = [61, h] ∧ isLB h = false ∧ Unicode.isSpace h = false ∧ h ≠ 61) ∨ (tp = [61, 13] ∧ TT = [])
theorem TailOk.head {tp TT : List Nat} (h : TailOk tp TT) : tp.head? ≠ some 10 := by
  rcases h with ⟨rfl, _⟩ | ⟨rfl, _⟩ | ⟨h, rfl, _⟩ | ⟨rfl, _⟩ <;> simp
theorem HeadOk.line {hp H s0 : List Nat} (h : HeadOk hp H s0) : LineOk s0 := by
  rcases h with ⟨_, rfl, h, _⟩ | ⟨_, rfl, _⟩
  · exact h
  · exact fun c hc => nomatch hc
theorem piece_pre {e hp H s0 tp TT : List Nat} {M : List (Option Nat)} {x : Str} (he : EndOk e) (hM : TokOk M) (hh : HeadOk hp H s0) (ht : TailOk tp TT) (hx : ch x = hp ++ flatT e M ++ tp) :
    decPre [10] (Txt.lines x) = H ++ ((segs s0 M).1 ++ ((lnL (encX (segs s0 M).2) tp).map (dL [10])).flatten) := by
  rw [decPre_ln, hx, List.append_assoc]
  rcases hh with ⟨rfl, rfl, h1, h2, _⟩ | ⟨rfl, rfl, h1⟩
  · have := lnL_app (r := flatT e M ++ tp) (encX s0) [] (encX_lb h1)
    rw [h2, List.nil_append] at this
    rw [this, List.nil_append]
    have := lines_tok (E := [10]) he ht.head M s0 hM h1
    rwa [h2] at this
  · rw [lnL_end h1 (fun _ => flat_head ht.head hM), List.map_cons, List.flatten_cons]
    have := lines_tok (E := [10]) he ht.head M [] hM (fun d hd => nomatch hd)
    rw [encX_nil] at this
    rw [this]; rfl
theorem octT_ok : ∀ {M : List (Option Nat)}, TokOk M → LineOk (octT M)
  | [], _ => fun c hc => nomatch hc
  | some c :: r, h => fun d hd => by
    rw [octT_cons] at hd
    rcases List.mem_append.mp hd with hd | hd
    · rw [List.mem_singleton.mp hd]; exact h c List.mem_cons_self
    · exact octT_ok h.tail d hd
  | none :: r, h => fun d hd => octT_ok h.tail d hd
theorem octT_len (e : List Nat) : ∀ M : List (Option Nat), (octT M).length ≤ (flatT e M).length
  | [] => Nat.le_refl _
  | some c :: r => by
    have := octT_len e r
    have := (encC_len c).1
    rw [octT_cons, flatT_cons, List.length_append, List.length_append]
    show 1 + _ ≤ (encC c).length + _
    lia
  | none :: r => by
    have := octT_len e r
    rw [octT_cons, flatT_cons, List.length_append, List.length_append]
    show 0 + _ ≤ _
    lia
theorem suffix10 {l : List Nat} (h : [10].isSuffixOf l = true) : ∃ a, l = a ++ [10] := by
  obtain ⟨a, ha⟩ := List.isSuffixOf_iff_suffix.mp h
  exact ⟨a, ha.symm⟩
theorem decF_cutY {x : Str} {Y : List Nat} (h0 : x.length ≠ 0) (hl : (ch x).getD (x.length - 1) 0 ≠ 13 ∧ (ch x).getD (x.length - 1) 0 ≠ 10) (hp : decPre [10] (Txt.lines x) = Y ++ [10]) : decF x [10] = Y := by
  unfold decF
  rw [if_neg h0, if_pos ⟨hl, by rw [hp]; exact List.isSuffixOf_iff_suffix.mpr (List.suffix_append _ _)⟩, if_neg (by simp), hp]
  simp
theorem decF_keep {x : Str} {Y : List Nat} (h0 : x.length ≠ 0) (hp : decPre [10] (Txt.lines x) = Y) (hl : ((ch x).getD (x.length - 1) 0 = 13 ∨ (ch x).getD (x.length - 1) 0 = 10) ∨ ¬ ∃ a, Y = a ++ [10]) : decF x [10] = Y := by
  unfold decF
  rw [if_neg h0, if_neg, hp]
  rintro ⟨⟨q1, q2⟩, q3⟩
  rw [hp] at q3
  rcases hl with (z | z) | z
  · exact q1 z
  · exact q2 z
  · exact z (suffix10 q3)
theorem dec_piece {e hp H s0 tp TT : List Nat} {M : List (Option Nat)} {x : Str} (he : EndOk e) (hM : TokOk M) (hh : HeadOk hp H s0) (ht : TailOk tp TT) (hx : ch x = hp ++ flatT e M ++ tp) (hlen : 7 ≤ x.length) (hne : H = [10] → octT M ≠ []) :
    decF x [10] = (if tp = [] then H ++ ((segs s0 M).1 ++ stripL (segs s0 M).2) else H ++ (s0 ++ octT M) ++ TT) := by
  have hpre := piece_pre he hM hh ht hx
  have hl2 := segs_ok M s0 hM hh.line
  have hall := segs_all M s0
  have h0 : x.length ≠ 0 := by lia
  have hcl := ch_len x
  rcases ht with ⟨rfl, rfl⟩ | ⟨rfl, rfl⟩ | ⟨h, rfl, rfl, g1, g2, g3⟩ | ⟨rfl, rfl⟩
  · rw [if_pos rfl]
    rw [tail0 hl2] at hpre
    by_cases hlast : (segs s0 M).2 = []
    · rw [if_pos hlast, List.append_nil] at hpre
      rw [hlast, show stripL [] = [] from rfl, List.append_nil]
      refine decF_keep h0 hpre (.inl ?_)
      rw [List.append_nil] at hx
      rcases segs_nil (e := e) M s0 hlast with ⟨rfl, rfl⟩ | ⟨a, ha⟩
      · exfalso
        rw [hx] at hcl
        rcases hh with ⟨_, rfl, _⟩ | ⟨_, _, h1⟩
        · simp [flatT] at hcl; lia
        · rcases h1 with rfl | rfl | rfl <;> simp [flatT] at hcl <;> lia
      · rw [ha, ← List.append_assoc] at hx
        rw [← hcl, hx]
        exact end_last he _
    · rw [if_neg hlast] at hpre
      refine decF_cutY h0 ?_ (by rw [hpre]; simp)
      obtain ⟨a, ha⟩ : ∃ a, ch x = a ++ encX (segs s0 M).2 := by
        obtain ⟨a, ha⟩ := segs_end (e := e) M s0
        rw [List.append_nil] at hx
        rcases hh with ⟨_, rfl, _, h2, _⟩ | ⟨_, rfl, _⟩
        · exact ⟨a, by rw [hx, ← ha, h2]⟩
        · rw [encX_nil, List.nil_append] at ha
          exact ⟨hp ++ a, by rw [hx, ha, List.append_assoc]⟩
      obtain ⟨b, c, hb⟩ := snoc_of hlast
      obtain ⟨q, hq⟩ := encX_last b c
      have hc := hl2 c (by rw [hb]; simp)
      rw [← hcl, ha, hb, hq, ← List.append_assoc, getD_last]
      constructor
      · intro q; exact absurd ((lastC_end hc.1).mp (.inl q)) (by lia)
      · intro q; exact absurd ((lastC_end hc.1).mp (.inr q)) (by lia)
  · rw [if_neg (by simp), List.append_nil]
    rw [tail1 hl2, hall] at hpre
    refine decF_keep h0 hpre (.inr ?_)
    rintro ⟨a, ha⟩
    have hLo : LineOk (s0 ++ octT M) := fun c hc => by
      rcases List.mem_append.mp hc with hc | hc
      · exact hh.line c hc
      · exact octT_ok hM c hc
    have hne2 : s0 ++ octT M ≠ [] ∨ H = [] := by
      rcases hh with ⟨h1, _⟩ | ⟨h1, h2, _⟩
      · exact .inr h1
      · left; rw [h2]; exact hne h1
    by_cases hz : s0 ++ octT M = []
    · rcases hne2 with q | q
      · exact q hz
      · rw [q, hz] at ha; simp at ha
    · obtain ⟨b, c, hb⟩ := snoc_of hz
      rw [hb, ← List.append_assoc] at ha
      have := List.singleton_inj.mp (List.append_inj' ha rfl).2
      have hc := hLo c (by rw [hb]; simp)
      lia
  · rw [if_neg (by simp)]
    rw [tail2 hl2 g1 g2 g3] at hpre
    refine decF_cutY h0 ?_ (by rw [hpre, ← hall]; simp)
    rw [← hcl, hx, show hp ++ flatT e M ++ [61, h] = (hp ++ flatT e M ++ [61]) ++ [h] by simp, getD_last]
    constructor
    · rintro rfl; rw [lb13] at g1; cases g1
    · rintro rfl; rw [lb10] at g1; cases g1
  · rw [if_neg (by simp), List.append_nil]
    rw [tail3 hl2, hall] at hpre
    refine decF_keep h0 hpre (.inl (.inl ?_))
    rw [← hcl, hx, show hp ++ flatT e M ++ [61, 13] = (hp ++ flatT e M ++ [61]) ++ [13] by simp, getD_last]
theorem strip_len {s : List Nat} (hs : LineOk s) : (stripL s).length ≤ s.length := by
  obtain ⟨_, b, h⟩ := strip_enc _ s (Nat.le_refl _) hs
  have := congrArg List.length h
  rw [List.length_append] at this
  lia
theorem piece_len {e hp H s0 tp TT : List Nat} {M : List (Option Nat)} {x : Str} (he : EndOk e) (hM : TokOk M) (hh : HeadOk hp H s0) (ht : TailOk tp TT) (hx : ch x = hp ++ flatT e M ++ tp) :
    (decPre [10] (Txt.lines x)).length ≤ x.length + 10 := by
  rw [piece_pre he hM hh ht hx]
  have hl2 := segs_ok M s0 hM hh.line
  have hall := congrArg List.length (segs_all M s0)
  have hs := strip_len hl2
  have ho := octT_len e M
  have hcl := congrArg List.length hx
  rw [ch_len] at hcl
  have hH : H.length ≤ 1 ∧ s0.length ≤ hp.length := by
    rcases hh with ⟨rfl, rfl, _⟩ | ⟨rfl, rfl, _⟩ <;> simp
  have htl : (((lnL (encX (segs s0 M).2) tp).map (dL [10])).flatten).length ≤ (segs s0 M).2.length + 3 := by
    rcases ht with ⟨rfl, rfl⟩ | ⟨rfl, rfl⟩ | ⟨h, rfl, rfl, g1, g2, g3⟩ | ⟨rfl, rfl⟩
    · rw [tail0 hl2]; split
      · simp
      · rw [List.length_append]; simp; lia
    · rw [tail1 hl2]; lia
    · rw [tail2 hl2 g1 g2 g3]; simp
    · rw [tail3 hl2]; lia
  simp only [List.length_append] at *
  lia
end Mine
-- text S3b
namespace Mine
/-- one turn of _law_left: told, bare, start, stop -/
noncomputable def leftStep (st : List Nat × Nat × Int × Int) (t : List Nat × List Nat) : List Nat × Nat × Int × Int :=
  if (t.1.drop (max st.2.2.1 0).toNat).take ((max st.2.2.2 0).toNat - (max st.2.2.1 0).toNat) = t.1 then
    (st.1 ++ t.2, (if t.1 = [32] ∨ t.1 = [9] then st.2.1 + 1 else 0), st.2.2.1 - t.1.length, st.2.2.2 - t.1.length)
  else if (t.1.drop (max st.2.2.1 0).toNat).take ((max st.2.2.2 0).toNat - (max st.2.2.1 0).toNat) ≠ [] ∧ 0 < st.2.2.1 then
    (st.1 ++ (if t.2 ≠ [] then (t.1.drop (max st.2.2.1 0).toNat).take ((max st.2.2.2 0).toNat - (max st.2.2.1 0).toNat) else [10]), st.2.1, st.2.2.1 - t.1.length, st.2.2.2 - t.1.length)
  else if (t.1.drop (max st.2.2.1 0).toNat).take ((max st.2.2.2 0).toNat - (max st.2.2.1 0).toNat) ≠ [] then
    (st.1 ++ (if t.2 ≠ [] ∧ ((t.1.drop (max st.2.2.1 0).toNat).take ((max st.2.2.2 0).toNat - (max st.2.2.1 0).toNat)).length = 2 then (t.1.drop (max st.2.2.1 0).toNat).take ((max st.2.2.2 0).toNat - (max st.2.2.1 0).toNat) else []), 0, st.2.2.1 - t.1.length, st.2.2.2 - t.1.length)
  else (st.1, st.2.1, st.2.2.1 - t.1.length, st.2.2.2 - t.1.length)
noncomputable def tokT (e : List Nat) (t : Option Nat) : List Nat × List Nat := (sg e t, oc t)
noncomputable def leftAll (e : List Nat) (L : List (Option Nat)) (st : List Nat × Nat × Int × Int) : List Nat × Nat × Int × Int := (L.map (tokT e)).foldl leftStep st
noncomputable def cutB (r : List Nat × Nat × Int × Int) : List Nat := r.1.take (r.1.length - r.2.1)
noncomputable def leftF (e : List Nat) (L : List (Option Nat)) (start stop : Int) : List Nat := cutB (leftAll e L ([], 0, start, stop))
theorem leftAll_cons (e : List Nat) (t : Option Nat) (L : List (Option Nat)) (st : List Nat × Nat × Int × Int) : leftAll e (t :: L) st = leftAll e L (leftStep st (tokT e t)) := rfl
theorem leftAll_app (e : List Nat) (A B : List (Option Nat)) (st : List Nat × Nat × Int × Int) : leftAll e (A ++ B) st = leftAll e B (leftAll e A st) := by simp [leftAll]
theorem sg_len {e : List Nat} (t : Option Nat) : 1 ≤ (sg e t).length := by
  cases t with
  | none => simp [sg]
  | some c => exact (encC_len c).1
section
variable {e told : List Nat} {t : Option Nat} {bare : Nat} {start stop : Int}
theorem step_skip (h : ((sg e t).length : Int) ≤ start) : leftStep (told, bare, start, stop) (tokT e t) = (told, bare, start - (sg e t).length, stop - (sg e t).length) := by
  have h1 := sg_len (e := e) t
  have hd : (sg e t).drop (max start 0).toNat = [] := List.drop_eq_nil_of_le (by lia)
  have hne : ([] : List Nat) ≠ sg e t := fun q => by rw [← q] at h1; simp at h1
  unfold leftStep tokT
  simp only [hd, List.take_nil]
  rw [if_neg hne, if_neg (fun q => q.1 rfl), if_neg (fun q => q rfl)]
theorem step_head {q : Nat} (hq : start = q) (h0 : 0 < q) (h1 : q < (sg e t).length) (h2 : ((sg e t).length : Int) ≤ stop) :
    leftStep (told, bare, start, stop) (tokT e t) = (told ++ (if oc t ≠ [] then (sg e t).drop q else [10]), bare, start - (sg e t).length, stop - (sg e t).length) := by
  have e1 : (max start 0).toNat = q := by lia
  have e2 : ((sg e t).drop q).take ((max stop 0).toNat - q) = (sg e t).drop q := List.take_of_length_le (by rw [List.length_drop]; lia)
  have hne : (sg e t).drop q ≠ sg e t := fun z => by have := congrArg List.length z; rw [List.length_drop] at this; lia
  have hne2 : (sg e t).drop q ≠ [] := fun z => by have := congrArg List.length z; rw [List.length_drop, List.length_nil] at this; lia
  unfold leftStep tokT
  simp only [e1, e2]
  rw [if_neg hne, if_pos ⟨hne2, by lia⟩]
theorem sg_blank : (sg e t = [32] ∨ sg e t = [9]) ↔ (t = some 32 ∨ t = some 9) := by
  cases t with
  | none => simp [sg]
  | some c =>
    show (encC c = [32] ∨ encC c = [9]) ↔ _
    unfold encC
    split
    · simp
    · rename_i h
      constructor
      · rintro (q | q) <;> simp at q
      · rintro (q | q) <;> (injection q with q; subst q; exact absurd (by decide) h)
theorem step_full (h0 : start ≤ 0) (h1 : ((sg e t).length : Int) ≤ stop) :
    leftStep (told, bare, start, stop) (tokT e t) = (told ++ oc t, (if t = some 32 ∨ t = some 9 then bare + 1 else 0), start - (sg e t).length, stop - (sg e t).length) := by
  have e1 : (max start 0).toNat = 0 := by lia
  have e2 : ((sg e t).drop 0).take ((max stop 0).toNat - 0) = sg e t := by rw [List.drop_zero]; exact List.take_of_length_le (by lia)
  unfold leftStep tokT
  simp only [e1, e2, sg_blank]
  rw [if_pos trivial]
theorem step_tail {r : Nat} (h0 : start ≤ 0) (hr : stop = r) (hr0 : 0 < r) (h1 : r < (sg e t).length) :
    leftStep (told, bare, start, stop) (tokT e t) = (told ++ (if oc t ≠ [] ∧ r = 2 then (sg e t).take r else []), 0, start - (sg e t).length, stop - (sg e t).length) := by
  have e1 : (max start 0).toNat = 0 := by lia
  have e3 : (max stop 0).toNat - 0 = r := by lia
  have hl : ((sg e t).take r).length = r := by rw [List.length_take]; lia
  have hne : (sg e t).take r ≠ sg e t := fun z => by have := congrArg List.length z; rw [List.length_take] at this; lia
  have hne2 : (sg e t).take r ≠ [] := fun z => by have := congrArg List.length z; rw [List.length_take, List.length_nil] at this; lia
  unfold leftStep tokT
  simp only [e1, e3, List.drop_zero, hl]
  rw [if_neg hne, if_neg (fun q => by have := q.2; lia), if_pos hne2]
theorem step_off (h0 : start ≤ 0) (h1 : stop ≤ 0) : leftStep (told, bare, start, stop) (tokT e t) = (told, bare, start - (sg e t).length, stop - (sg e t).length) := by
  have e1 : (max start 0).toNat = 0 := by lia
  have e3 : (max stop 0).toNat - 0 = 0 := by lia
  have h2 := sg_len (e := e) t
  have hne : ([] : List Nat) ≠ sg e t := fun q => by rw [← q] at h2; simp at h2
  unfold leftStep tokT
  simp only [e1, e3, List.take_zero]
  rw [if_neg hne, if_neg (fun q => q.1 rfl), if_neg (fun q => q rfl)]
end
noncomputable def bareF : Nat → List (Option Nat) → Nat
  | b, [] => b
  | b, t :: r => bareF (if t = some 32 ∨ t = some 9 then b + 1 else 0) r
theorem fold_skip {e : List Nat} : ∀ (A : List (Option Nat)) (told : List Nat) (bare : Nat) (start stop : Int), ((flatT e A).length : Int) ≤ start → leftAll e A (told, bare, start, stop) = (told, bare, start - (flatT e A).length, stop - (flatT e A).length)
  | [], told, bare, start, stop, _ => by simp [leftAll, flatT]
  | t :: A, told, bare, start, stop, h => by
    have hl : (flatT e (t :: A)).length = (sg e t).length + (flatT e A).length := by rw [flatT_cons, List.length_append]
    rw [leftAll_cons, step_skip (by lia), fold_skip A _ _ _ _ (by lia), hl]
    congr 3
    · lia
    · lia
theorem fold_full {e : List Nat} : ∀ (M : List (Option Nat)) (told : List Nat) (bare : Nat) (start stop : Int), start ≤ 0 → ((flatT e M).length : Int) ≤ stop → leftAll e M (told, bare, start, stop) = (told ++ octT M, bareF bare M, start - (flatT e M).length, stop - (flatT e M).length)
  | [], told, bare, start, stop, _, _ => by simp [leftAll, flatT, octT, bareF]
  | t :: M, told, bare, start, stop, h0, h => by
    have hl : (flatT e (t :: M)).length = (sg e t).length + (flatT e M).length := by rw [flatT_cons, List.length_append]
    rw [leftAll_cons, step_full h0 (by lia), fold_full M _ _ _ _ (by lia) (by lia), hl, octT_cons, List.append_assoc, bareF]
    congr 3
    · lia
    · lia
theorem fold_off {e : List Nat} : ∀ (C : List (Option Nat)) (told : List Nat) (bare : Nat) (start stop : Int), start ≤ 0 → stop ≤ 0 → cutB (leftAll e C (told, bare, start, stop)) = cutB (told, bare, start, stop)
  | [], _, _, _, _, _, _ => rfl
  | t :: C, told, bare, start, stop, h0, h1 => by
    rw [leftAll_cons, step_off h0 h1, fold_off C _ _ _ _ (by lia) (by lia)]
    rfl
theorem split_tok {e : List Nat} : ∀ (L : List (Option Nat)) (p : Nat), p ≤ (flatT e L).length → ∃ A B q, L = A ++ B ∧ (flatT e A).length + q = p ∧ (q = 0 ∨ ∃ t B', B = t :: B' ∧ 0 < q ∧ q < (sg e t).length)
  | [], p, h => ⟨[], [], 0, rfl, by simp [flatT] at h ⊢; lia, .inl rfl⟩
  | t :: L, p, h => by
    have hl : (flatT e (t :: L)).length = (sg e t).length + (flatT e L).length := by rw [flatT_cons, List.length_append]
    by_cases h0 : p = 0
    · exact ⟨[], t :: L, 0, rfl, by simp [flatT]; lia, .inl rfl⟩
    · by_cases h1 : p < (sg e t).length
      · exact ⟨[], t :: L, p, rfl, by simp [flatT], .inr ⟨t, L, rfl, by lia, h1⟩⟩
      · obtain ⟨A, B, q, rfl, h2, h3⟩ := split_tok (e := e) L (p - (sg e t).length) (by lia)
        exact ⟨t :: A, B, q, rfl, by clear h3; rw [flatT_cons, List.length_append]; lia, h3⟩
/-- trailing blanks -/
noncomputable def tb (s : List Nat) : Nat := s.length - (stripL s).length
theorem tb_blank {a : List Nat} {c : Nat} (ha : LineOk a) (h : c = 32 ∨ c = 9) : tb (a ++ [c]) = tb a + 1 := by
  unfold tb
  have := strip_len ha
  rw [stripL_blank h, List.length_append]; simp; lia
theorem tb_no {a : List Nat} {c : Nat} (h : ¬ (c = 32 ∨ c = 9)) : tb (a ++ [c]) = 0 := by
  unfold tb
  rw [stripL_no h]; lia
theorem bare_segs : ∀ (M : List (Option Nat)) (s : List Nat), TokOk M → LineOk s → bareF (tb s) M = tb (segs s M).2
  | [], _, _, _ => rfl
  | some c :: r, s, h, hs => by
    have hs' : LineOk (s ++ [c]) := fun d hd => by
      rcases List.mem_append.mp hd with hd | hd
      · exact hs d hd
      · rw [List.mem_singleton.mp hd]; exact h c List.mem_cons_self
    rw [bareF, segs, ← bare_segs r _ h.tail hs']
    by_cases hc : c = 32 ∨ c = 9
    · rw [tb_blank hs hc, if_pos (by rcases hc with rfl | rfl <;> simp)]
    · rw [tb_no hc, if_neg (by simpa using hc)]
  | none :: r, s, h, hs => by
    rw [bareF, segs, if_neg (by simp), ← bare_segs r [] h.tail (fun d hd => nomatch hd)]
    rfl
theorem tb_0 {s : List Nat} (h : ∀ c ∈ s, c ≠ 32 ∧ c ≠ 9) : tb s = 0 := by
  by_cases h0 : s = []
  · subst h0; rfl
  · obtain ⟨a, c, rfl⟩ := snoc_of h0
    have := h c (by simp)
    exact tb_no (by lia)
theorem take_strip {X s : List Nat} (hs : LineOk s) : (X ++ s).take ((X ++ s).length - tb s) = X ++ stripL s := by
  obtain ⟨_, b, h⟩ := strip_enc _ s (Nat.le_refl _) hs
  have hl := congrArg List.length h
  rw [List.length_append] at hl
  have e1 : (X ++ s).length - tb s = (X ++ stripL s).length := by
    unfold tb
    simp only [List.length_append]; lia
  rw [e1]
  generalize stripL s = z at h ⊢
  rw [h, ← List.append_assoc, List.take_left]
end Mine
-- text S4b
namespace Mine
theorem hexDig_plain {d : Nat} (h : d < 16) : plainC (hexDig d) = true ∧ hexDig d < 256 := by
  have : ∀ d : Fin 16, plainC (hexDig d.val) = true ∧ hexDig d.val < 256 := by decide +kernel
  exact this ⟨d, h⟩
/-- digits that stand for themselves -/
theorem head_digits {hp : List Nat} (h : ∀ c ∈ hp, ∃ d, d < 16 ∧ c = hexDig d) : HeadOk hp [] hp := by
  refine .inl ⟨rfl, rfl, fun c hc => ?_, ?_, fun c hc => ?_⟩
  · obtain ⟨d, hd, rfl⟩ := h c hc
    have := hexDig_ne d hd
    exact ⟨(hexDig_plain hd).2, this.2.2.2.2.2.1, this.2.2.2.2.2.2.1⟩
  · have : ∀ l : List Nat, (∀ c ∈ l, ∃ d, d < 16 ∧ c = hexDig d) → encX l = l := by
      intro l
      induction l with
      | nil => intro _; rfl
      | cons c r ih =>
        intro h
        obtain ⟨d, hd, rfl⟩ := h c List.mem_cons_self
        rw [encX_cons, encC_plain (hexDig_plain hd).1, ih (fun x hx => h x (List.mem_cons_of_mem _ hx))]; rfl
    exact this hp h
  · obtain ⟨d, hd, rfl⟩ := h c hc
    have := hexDig_ne d hd
    exact ⟨this.2.2.2.2.2.2.2.1, this.2.2.2.2.2.2.2.2⟩
/-- a token torn at the head -/
theorem head_torn {e : List Nat} {t : Option Nat} {q : Nat} (he : EndOk e) (ht : ∀ c, t = some c → c < 256) (h0 : 0 < q) (h1 : q < (sg e t).length) : ∃ H s0, HeadOk ((sg e t).drop q) H s0 ∧ (if oc t ≠ [] then (sg e t).drop q else [10]) = H ++ s0 ∧ (H = [10] → t = none) ∧ ((sg e t).drop q).length ≤ 2 := by
  cases t with
  | none =>
    refine ⟨[10], [], .inr ⟨rfl, rfl, ?_⟩, by simp [oc], fun _ => rfl, ?_⟩
    · show EndOk ((61 :: e).drop q)
      rcases he with rfl | rfl | rfl
      · have : q = 1 := by simp [sg] at h1; lia
        subst this; exact .inl rfl
      · have : q = 1 ∨ q = 2 := by simp [sg] at h1; lia
        rcases this with rfl | rfl
        · exact .inr (.inl rfl)
        · exact .inl rfl
      · have : q = 1 := by simp [sg] at h1; lia
        subst this; exact .inr (.inr rfl)
    · rw [List.length_drop]
      show (61 :: e).length - q ≤ 2
      rcases he with rfl | rfl | rfl <;> simp <;> lia
  | some c =>
    have hc := ht c rfl
    have hq : encC c = quoteL c := by
      by_cases hp : plainC c = true
      · exfalso
        have : (encC c).length = 1 := by rw [encC_plain hp]; rfl
        rw [show sg e (some c) = encC c from rfl] at h1
        lia
      · exact encC_quote (by simpa using hp)
    show ∃ H s0, HeadOk ((encC c).drop q) H s0 ∧ (if oc (some c) ≠ [] then (encC c).drop q else [10]) = H ++ s0 ∧ (H = [10] → some c = none) ∧ ((encC c).drop q).length ≤ 2
    rw [show sg e (some c) = encC c from rfl, hq] at h1
    rw [hq]
    refine ⟨[], (quoteL c).drop q, head_digits ?_, by simp [oc], fun h => by simp at h, ?_⟩
    · have : q = 1 ∨ q = 2 := by simp [quoteL] at h1; lia
      intro d hd
      rcases this with rfl | rfl
      · simp [quoteL] at hd
        rcases hd with rfl | rfl
        · exact ⟨c / 16, by lia, rfl⟩
        · exact ⟨c % 16, by lia, rfl⟩
      · simp [quoteL] at hd
        exact ⟨c % 16, by lia, hd⟩
    · rw [List.length_drop]; simp [quoteL]; lia
/-- a token torn at the end -/
theorem tail_torn {e : List Nat} {t : Option Nat} {r : Nat} (he : EndOk e) (ht : ∀ c, t = some c → c < 256) (h0 : 0 < r) (h1 : r < (sg e t).length) : TailOk ((sg e t).take r) (if oc t ≠ [] ∧ r = 2 then (sg e t).take r else []) ∧ (sg e t).take r ≠ [] ∧ r ≤ 2 := by
  cases t with
  | none =>
    show TailOk ((61 :: e).take r) (if oc none ≠ [] ∧ r = 2 then (61 :: e).take r else []) ∧ (61 :: e).take r ≠ [] ∧ r ≤ 2
    rw [if_neg (fun q => q.1 rfl)]
    rw [show sg e none = 61 :: e from rfl] at h1
    rcases he with rfl | rfl | rfl
    · have : r = 1 := by simp at h1; lia
      subst this; exact ⟨.inr (.inl ⟨rfl, rfl⟩), by simp, by lia⟩
    · have : r = 1 ∨ r = 2 := by simp at h1; lia
      rcases this with rfl | rfl
      · exact ⟨.inr (.inl ⟨rfl, rfl⟩), by simp, by lia⟩
      · exact ⟨.inr (.inr (.inr ⟨rfl, rfl⟩)), by simp, by lia⟩
    · have : r = 1 := by simp at h1; lia
      subst this; exact ⟨.inr (.inl ⟨rfl, rfl⟩), by simp, by lia⟩
  | some c =>
    have hc := ht c rfl
    have hq : encC c = quoteL c := by
      by_cases hp : plainC c = true
      · exfalso
        have : (encC c).length = 1 := by rw [encC_plain hp]; rfl
        rw [show sg e (some c) = encC c from rfl] at h1
        lia
      · exact encC_quote (by simpa using hp)
    show TailOk ((encC c).take r) (if oc (some c) ≠ [] ∧ r = 2 then (encC c).take r else []) ∧ (encC c).take r ≠ [] ∧ r ≤ 2
    rw [show sg e (some c) = encC c from rfl, hq] at h1
    rw [hq]
    have : r = 1 ∨ r = 2 := by simp [quoteL] at h1; lia
    rcases this with rfl | rfl
    · exact ⟨.inr (.inl ⟨rfl, by simp⟩), by simp [quoteL], by lia⟩
    · have := hexDig_ne (c / 16) (by lia)
      exact ⟨.inr (.inr (.inl ⟨hexDig (c / 16), rfl, by simp [oc, quoteL], this.2.2.2.1, this.2.2.2.2.1, this.1⟩)), by simp [quoteL], by lia⟩
/-- what a piece is, once its head is known -/
theorem left_mid {e hp H s0 : List Nat} {B : List (Option Nat)} {n' n : Nat} {start stop : Int} {x : Str} (he : EndOk e) (hB : TokOk B) (hh : HeadOk hp H s0) (hs : start ≤ 0) (hst : stop = n') (hn : n' ≤ (flatT e B).length) (hx : ch x = hp ++ (flatT e B).take n') (hlen : 7 ≤ x.length) (hhl : hp.length ≤ 2) (hadj : H = [10] → ∀ r, B ≠ none :: r) :
    decF x [10] = cutB (leftAll e B (H ++ s0, 0, start, stop)) ∧ (decPre [10] (Txt.lines x)).length ≤ x.length + 10 := by
  obtain ⟨M, C, r, rfl, hr, hC⟩ := split_tok (e := e) B n' hn
  have hM : TokOk M := fun c hc => hB c (List.mem_append.mpr (.inl hc))
  have hsl := hh.line
  have htb : tb s0 = 0 := by
    rcases hh with ⟨_, rfl, _, _, h⟩ | ⟨_, rfl, _⟩
    · exact tb_0 h
    · rfl
  have hbs := bare_segs M s0 hM hsl
  rw [htb] at hbs
  have hall := segs_all M s0
  have hflat : (flatT e (M ++ C)).take n' = flatT e M ++ (flatT e C).take r := by
    rw [flatT_app, ← hr, List.take_length_add_append]
  have hcl := congrArg List.length hx
  rw [ch_len, List.length_append, List.length_take] at hcl
  have hne : ∀ tp : List Nat, tp.length ≤ 2 → n' = (flatT e M).length + tp.length → H = [10] → octT M ≠ [] := by
    intro tp htp hn2 hH
    cases M with
    | nil => exfalso; simp [flatT] at hn2; lia
    | cons t M' =>
      cases t with
      | none => exact absurd rfl (hadj hH (M' ++ C))
      | some c => simp [octT, oc]
  rw [leftAll_app, fold_full M _ _ _ _ hs (by lia)]
  rcases hC with rfl | ⟨t, C', rfl, hr0, hr1⟩
  · rw [List.take_zero, List.append_nil] at hflat
    have ht : TailOk [] [] := .inl ⟨rfl, rfl⟩
    have hx' : ch x = hp ++ flatT e M ++ [] := by rw [hx, hflat, List.append_nil]
    refine ⟨?_, piece_len he hM hh ht hx'⟩
    rw [dec_piece he hM hh ht hx' hlen (hne [] (by simp) (by simp; lia)), if_pos rfl]
    rw [fold_off C _ _ _ _ (by lia) (by lia)]
    show _ = (H ++ s0 ++ octT M).take ((H ++ s0 ++ octT M).length - bareF 0 M)
    rw [hbs, show H ++ s0 ++ octT M = (H ++ (segs s0 M).1) ++ (segs s0 M).2 by rw [List.append_assoc, ← hall, List.append_assoc], take_strip (segs_ok M s0 hM hsl), List.append_assoc]
  · have htt : ∀ c, t = some c → c < 256 := fun c hc => (hB c (by rw [hc]; simp)).1
    obtain ⟨ht, htne, hr2⟩ := tail_torn he htt hr0 hr1
    have hfl : (flatT e (t :: C')).take r = (sg e t).take r := by rw [flatT_cons, List.take_append_of_le_length (by lia)]
    rw [hfl] at hflat
    have hx' : ch x = hp ++ flatT e M ++ (sg e t).take r := by rw [hx, hflat, List.append_assoc]
    have htl : ((sg e t).take r).length = r := by rw [List.length_take]; lia
    refine ⟨?_, piece_len he hM hh ht hx'⟩
    rw [dec_piece he hM hh ht hx' hlen (hne ((sg e t).take r) (by lia) (by lia)), if_neg htne]
    rw [leftAll_cons, step_tail (r := r) (by lia) (by lia) hr0 hr1, fold_off C' _ _ _ _ (by lia) (by lia)]
    show _ = List.take (_ - 0) _
    rw [Nat.sub_zero, List.take_length]
    show _ = H ++ s0 ++ octT M ++ _
    simp only [List.append_assoc]
theorem left_piece {e : List Nat} {L : List (Option Nat)} {start n : Nat} {x : Str} (he : EndOk e) (hL : TokOk L) (hadj : ∀ A B, L ≠ A ++ none :: none :: B) (h : start + n ≤ (flatT e L).length) (hn : 7 ≤ n) (hx : ch x = ((flatT e L).drop start).take n) :
    decF x [10] = leftF e L start (start + n) ∧ (decPre [10] (Txt.lines x)).length ≤ x.length + 10 := by
  have hxl : x.length = n := by
    rw [← ch_len, hx, List.length_take, List.length_drop]; lia
  obtain ⟨A, B, q, rfl, hq, hB⟩ := split_tok (e := e) L start (by lia)
  have hlen : (flatT e (A ++ B)).length = (flatT e A).length + (flatT e B).length := by rw [flatT_app, List.length_append]
  have hBo : TokOk B := fun c hc => hL c (List.mem_append.mpr (.inr hc))
  have hdrop : (flatT e (A ++ B)).drop start = (flatT e B).drop q := by
    rw [flatT_app, ← hq, List.drop_append, List.drop_eq_nil_of_le (by lia), List.nil_append]
    congr 1; lia
  rw [hdrop] at hx
  unfold leftF
  rw [leftAll_app, fold_skip A _ _ _ _ (by lia)]
  rcases hB with rfl | ⟨t, B', rfl, hq0, hq1⟩
  · rw [List.drop_zero] at hx
    have hh : HeadOk [] [] [] := .inl ⟨rfl, rfl, (fun c hc => nomatch hc), rfl, (fun c hc => nomatch hc)⟩
    exact left_mid (n' := n) (n := n) he hBo hh (by lia) (by lia) (by lia) (by rw [hx]; rfl) (by lia) (by simp) (fun z => by simp at z)
  · have htt : ∀ c, t = some c → c < 256 := fun c hc => (hBo c (by rw [hc]; simp)).1
    obtain ⟨H, s0, hh, he2, hH, hhl⟩ := head_torn he htt hq0 hq1
    have hl2 : (flatT e (t :: B')).length = (sg e t).length + (flatT e B').length := by rw [flatT_cons, List.length_append]
    have hdl : ((sg e t).drop q).length = (sg e t).length - q := List.length_drop
    rw [leftAll_cons, step_head (q := q) (by lia) hq0 hq1 (by lia), he2, List.nil_append]
    refine left_mid (n' := n - ((sg e t).drop q).length) (n := n) he hBo.tail hh (by lia) (by lia) (by lia) ?_ (by lia) hhl ?_
    · rw [hx, flatT_cons, List.drop_append_of_le_length (by lia), List.take_append, List.take_of_length_le (by lia)]
    · intro hz r hr
      rw [hH hz, hr] at hadj
      exact hadj A r rfl
end Mine
-- text S5b
namespace Mine
/-- _law_numbers: numbers, value, worth -/
noncomputable def numStep (st : List Nat × Nat × Nat) (o : Nat) : List Nat × Nat × Nat :=
  if o / 64 % 2 = 0 then ((if 0 < st.2.2 then st.1 ++ [st.2.1] else st.1), o % 64, 64) else (st.1, st.2.1 + o % 64 * st.2.2, st.2.2 * 64)
noncomputable def numAll (l : List Nat) : List Nat × Nat × Nat := l.reverse.foldl numStep ([], 0, 0)
noncomputable def numF (l : List Nat) : List Nat := (if 0 < (numAll l).2.2 then (numAll l).1 ++ [(numAll l).2.1] else (numAll l).1).reverse
theorem numAll_cons (o : Nat) (l : List Nat) : numAll (o :: l) = numStep (numAll l) o := by simp [numAll]
theorem num_rd : ∀ (l : List Nat) (a : Nat), ((numAll l).2.2 = 0 → rd a l = [] ∧ (numAll l).1 = []) ∧ (0 < (numAll l).2.2 → rd a l = (a * (numAll l).2.2 + (numAll l).2.1) :: (numAll l).1.reverse)
  | [], a => ⟨fun _ => ⟨rfl, rfl⟩, fun h => by simp [numAll] at h⟩
  | o :: l, a => by
    rw [numAll_cons, rd]
    generalize hg : numAll l = g
    obtain ⟨ns, v, w⟩ := g
    by_cases ho : o / 64 % 2 = 0
    · have ih := num_rd l 0
      rw [hg] at ih
      dsimp only at ih
      rw [if_neg (by lia)]
      unfold numStep
      rw [if_pos ho]
      dsimp only
      refine ⟨fun h => by simp at h, fun _ => ?_⟩
      by_cases hw : 0 < w
      · rw [if_pos hw, ih.2 hw]; simp
      · have := ih.1 (by lia)
        rw [if_neg hw, this.1, this.2]; rfl
    · have ih := num_rd l (a * 64 + o % 64)
      rw [hg] at ih
      dsimp only at ih
      rw [if_pos (by lia)]
      unfold numStep
      rw [if_neg ho]
      dsimp only
      refine ⟨fun h => ih.1 (by lia), fun h => ?_⟩
      rw [ih.2 (by lia)]
      congr 1
      rw [Nat.add_mul, Nat.mul_assoc, Nat.mul_comm 64 w]
      lia
theorem num_read (l : List Nat) : numF l = readAll l := by
  rw [readAll_rd _ _ (Nat.le_refl _)]
  have h := num_rd l 0
  unfold numF
  by_cases hw : 0 < (numAll l).2.2
  · rw [if_pos hw, h.2 hw]; simp
  · have := h.1 (by lia)
    rw [if_neg hw, this.1, this.2]; rfl
/-- a row without line ends is one line -/
theorem lnT_one : ∀ (t cur : List Nat), LineOk t → lnT cur t = if cur ++ t = [] then [] else [cur ++ t]
  | [], cur, _ => by rw [lnT_nil, List.append_nil]
  | c :: t, cur, h => by
    have hc := h c List.mem_cons_self
    rw [lnT_cons, if_neg (by lia), lnT_one t _ (fun d hd => h d (List.mem_cons_of_mem _ hd))]
    simp
theorem encW_two (K : Nat) : ∀ (n : Nat) (r : List Nat), r.length ≤ n → ∀ p ∈ (encW K r).1, 2 ≤ p.length := by
  intro n
  induction n with
  | zero => intro r h; rw [encW_0 (by lia)]; exact fun p hp => nomatch hp
  | succ n ih =>
    intro r h
    by_cases hc : K + 2 ≤ r.length ∧ 3 ≤ K
    · by_cases a1 : r.getD (K - 2) 0 = 61
      · rw [encW_1 hc.1 hc.2 a1]
        intro p hp
        rcases List.mem_cons.mp hp with rfl | hp
        · rw [List.length_take]; lia
        · exact ih _ (by rw [List.length_drop]; lia) p hp
      · by_cases a2 : r.getD (K - 1) 0 = 61
        · rw [encW_2 hc.1 hc.2 a1 a2]
          intro p hp
          rcases List.mem_cons.mp hp with rfl | hp
          · rw [List.length_take]; lia
          · exact ih _ (by rw [List.length_drop]; lia) p hp
        · rw [encW_3 hc.1 hc.2 a1 a2]
          intro p hp
          rcases List.mem_cons.mp hp with rfl | hp
          · rw [List.length_append, List.length_take]; lia
          · exact ih _ (by rw [List.length_drop]; lia) p hp
    · rw [encW, dif_neg hc]; exact fun p hp => nomatch hp
noncomputable def tokLs (ts : List (List Nat)) (tl : List Nat) : List (Option Nat) := (ts.flatMap fun s => s.map some ++ [none]) ++ tl.map some
theorem flat_some (e : List Nat) : ∀ t : List Nat, flatT e (t.map some) = encX t
  | [] => rfl
  | c :: t => by rw [List.map_cons, flatT_cons, flat_some e t]; rfl
theorem oct_some : ∀ t : List Nat, octT (t.map some) = t
  | [] => rfl
  | c :: t => by rw [List.map_cons, octT_cons, oct_some t]; rfl
theorem tokLs_flat (e : List Nat) (tl : List Nat) : ∀ ts : List (List Nat), joinL e (ts.map (fun s => encX s ++ [61]) ++ [encX tl]) = flatT e (tokLs ts tl)
  | [] => by simp [tokLs, flat_some, joinL]
  | s :: ts => by
    rw [List.map_cons, List.cons_append]
    have ih := tokLs_flat e tl ts
    obtain ⟨a, r, hr⟩ : ∃ a r, ts.map (fun s => encX s ++ [61]) ++ [encX tl] = a :: r := by
      cases ts with
      | nil => exact ⟨_, _, rfl⟩
      | cons b ts => exact ⟨_, _, rfl⟩
    rw [hr] at ih ⊢
    show encX s ++ [61] ++ e ++ joinL e (a :: r) = _
    rw [ih]
    have : tokLs (s :: ts) tl = s.map some ++ (none :: tokLs ts tl) := by simp [tokLs]
    rw [this, flatT_app, flat_some, flatT_cons]
    simp [sg]
theorem tokLs_oct (tl : List Nat) : ∀ ts : List (List Nat), octT (tokLs ts tl) = ts.flatten ++ tl
  | [] => by simp [tokLs, oct_some]
  | s :: ts => by
    have : tokLs (s :: ts) tl = s.map some ++ (none :: tokLs ts tl) := by simp [tokLs]
    rw [this, octT_app, oct_some, octT_cons, tokLs_oct tl ts]
    simp [oc]
noncomputable def NoAdj (L : List (Option Nat)) : Prop := ∀ A B, L ≠ A ++ none :: none :: B
theorem NoAdj.some {c : Nat} {L : List (Option Nat)} (h : NoAdj L) : NoAdj (some c :: L) := by
  intro A B q
  cases A with
  | nil => simp at q
  | cons a A => simp at q; exact h A B q.2
theorem NoAdj.none {c : Nat} {r : List (Option Nat)} (h : NoAdj (Option.some c :: r)) : NoAdj (Option.none :: Option.some c :: r) := by
  intro A B q
  cases A with
  | nil => simp at q
  | cons a A => simp at q; exact h A B q.2
theorem NoAdj.somes {L : List (Option Nat)} (h : NoAdj L) : ∀ s : List Nat, NoAdj (s.map Option.some ++ L)
  | [] => h
  | c :: s => (NoAdj.somes h s).some
theorem tokLs_adj {tl : List Nat} (htl : tl ≠ []) : ∀ ts : List (List Nat), (∀ s ∈ ts, s ≠ []) → NoAdj (tokLs ts tl) ∧ ∃ c r, tokLs ts tl = Option.some c :: r
  | [], _ => by
    have h0 : NoAdj [] := fun A B q => by simp at q
    have := NoAdj.somes h0 tl
    rw [List.append_nil] at this
    refine ⟨by simpa [tokLs] using this, ?_⟩
    cases tl with
    | nil => exact absurd rfl htl
    | cons c r => exact ⟨c, r.map Option.some, by simp [tokLs]⟩
  | s :: ts, h => by
    obtain ⟨h1, c, r, h2⟩ := tokLs_adj htl ts (fun x hx => h x (List.mem_cons_of_mem _ hx))
    have e1 : tokLs (s :: ts) tl = s.map Option.some ++ (Option.none :: tokLs ts tl) := by simp [tokLs]
    rw [e1, h2]
    rw [h2] at h1
    refine ⟨NoAdj.somes h1.none s, ?_⟩
    have hs := h s List.mem_cons_self
    cases s with
    | nil => exact absurd rfl hs
    | cons d s => exact ⟨d, _, rfl⟩
theorem letter_tok {k : Nat} {e T' : List Nat} {c : Nat} (hk : 3 ≤ k) (hT : LineOk (T' ++ [c])) (hc : c ≠ 32 ∧ c ≠ 9) : ∃ L, encF k e (T' ++ [c]) = flatT e L ∧ octT L = T' ++ [c] ∧ TokOk L ∧ NoAdj L := by
  have hlt : ∀ d ∈ T' ++ [c], d < 256 := fun d hd => (hT d hd).1
  have hne : T' ++ [c] ≠ [] := by simp
  have hlines : lnL [] (encX (T' ++ [c])) = [encX (T' ++ [c])] := by
    have h1 := lnL_enc _ (T' ++ [c]) [] (Nat.le_refl _) hlt
    rw [encX_nil, lnT_one _ _ hT, List.nil_append, if_neg hne] at h1
    exact h1
  obtain ⟨q, hq⟩ := encX_last T' c
  have hcc := hT c (by simp)
  have hcl : ¬ closed (encX (T' ++ [c])) := by
    intro h
    have h' : _ ∨ _ := h
    rw [hq, getD_last] at h'
    have := (lastC_end hcc.1).mp h'
    lia
  have hbl : ¬ blankLast (encX (T' ++ [c])) := by
    intro h
    have h' := h.2
    rw [hq, getD_last] at h'
    have := (lastC_blank hcc.1).mp h'
    lia
  obtain ⟨ts, tl, h1, h2, h3, h4⟩ := encW_tok k hk _ (T' ++ [c]) (Nat.le_refl _) hlt
  have hs : subs k (encX (T' ++ [c])) = ts.map (fun s => encX s ++ [61]) ++ [encX tl] := by
    unfold subs
    rw [if_neg hcl, hlines, List.append_nil, List.map_cons, List.map_nil, List.flatten_cons, List.flatten_nil, List.append_nil]
    unfold subLine subLast
    rw [if_neg hbl, h2, h3]
  have hts : ∀ s ∈ ts, s ≠ [] := by
    intro s hs2 h0
    have := encW_two k _ _ (Nat.le_refl _) (encX s ++ [61]) (by rw [h2]; exact List.mem_map.mpr ⟨s, hs2, rfl⟩)
    rw [h0] at this
    simp [encX] at this
  refine ⟨tokLs ts tl, ?_, ?_, ?_, (tokLs_adj (h4 hne) ts hts).1⟩
  · rw [encF_subs, hs, tokLs_flat]
  · rw [tokLs_oct, ← h1]
  · intro d hd
    have : d ∈ octT (tokLs ts tl) := by
      unfold octT
      exact List.mem_flatMap.mpr ⟨_, hd, by simp [oc]⟩
    rw [tokLs_oct, ← h1] at this
    exact hT d this
end Mine
-- text O2
namespace Mine
open PySem.Calls PySem.Spec
set_option maxRecDepth 100000
set_option maxHeartbeats 8000000
noncomputable def Marker : Prop := True
noncomputable def MarkF : Prop := True
noncomputable def Keep (P : Prop) : Prop := P
noncomputable def IntPost (z : Int) (g : Heap) (L : Addr) (m : Str → Option Value) (led : List (Addr × Obj)) (s : Shared) (v : Value) (s' : Shared) : Prop := ∃ t h' k, v = .int z t ∧ s' = { s with heap := h', toks := k } ∧ Fr g L h' m ∧ News g L h' led
theorem evInt {M : Model} {A : Around} {c : Sem Value} {Q E : Value → Shared → Prop} {s s₀ : Shared} {g h : Heap} {L : Addr} {m : Str → Option Value} {led : List (Addr × Obj)} (z : Int) (F : Fr g L h m) (N : News g L h led) (h1 : wpAny M A c (IntPost z g L m led s) (fun _ _ => False) s₀)
    (h2 : ∀ t h' k, Fr g L h' m → News g L h' led → Q (.int z t) { s with heap := h', toks := k }) : wpAny M A c Q E s₀ :=
  wpAny_mono h1 (fun v s' hv => by obtain ⟨t, h', k, rfl, rfl, F', N'⟩ := hv; exact h2 t h' k F' N') fun _ _ e => e.elim
noncomputable def o2W (x : Int) : Int := (x.fdiv 8).fmod 3
noncomputable def o2L (x : Int) : Int := ([32, 9, 48, 61, 30, 63, 5, ((x.fdiv 8).fdiv 3).fmod 64] : List Int).getD (x.fmod 8).toNat 0
noncomputable def o2H (x : Int) : Int := if x.fmod 8 = 7 then ((x.fdiv 8).fdiv 3).fdiv 64 else (x.fdiv 8).fdiv 3
noncomputable def o2A (x : Int) : Int := if o2L x = 10 ∨ o2L x = 13 then 1 else 0
noncomputable def o2B (x : Int) : Int := if x < 0 then 128 else 0
noncomputable def o2 (x : Int) : List Int := (if o2W x = 2 then [64 + ((o2H x).fdiv (64 ^ 1)).fmod 64] else []) ++ (if o2W x = 0 then [] else [64 + ((o2H x).fdiv (64 ^ 0)).fmod 64]) ++ [o2L x + o2A x + o2B x]
theorem o2_len (x : Int) : (o2 x).length ≤ 3 := by
  unfold o2
  split <;> split <;> simp
theorem oct_len : ∀ ns : List Int, (ns.flatMap o2).length ≤ 3 * ns.length
  | [] => by simp
  | x :: r => by
    have := oct_len r
    have := o2_len x
    simp only [List.flatMap_cons, List.length_append, List.length_cons]; lia
theorem oct_snoc {ns : List Int} {i : Nat} {x : Int} (h : ns[i]? = some x) : (ns.take (i + 1)).flatMap o2 = (ns.take i).flatMap o2 ++ o2 x := by
  rw [List.take_add_one, h]; simp
theorem off_of {a d : Addr} {own : List (Addr × Obj)} {o : Obj} (h : @LT.lt Nat _ a d ∧ AllLt d own) : ∀ p ∈ (a, o) :: own, p.1 ≠ d := by
  intro p hp
  rcases List.mem_cons.mp hp with rfl | hp
  · exact Nat.ne_of_lt h.1
  · have : ∀ l : List (Addr × Obj), AllLt d l → ∀ p ∈ l, p.1 ≠ d := by
      intro l
      induction l with
      | nil => intro _ p hp; cases hp
      | cons q r ih =>
        intro h p hp
        rcases List.mem_cons.mp hp with rfl | hp
        · exact Nat.ne_of_lt h.1
        · exact ih h.2 p hp
    exact this own h.2 p hp
theorem oA1 {y : Int} (h : ([10, 13].any fun x => x == o2L y) = true) : o2A y = 1 := by
  unfold o2A
  simp only [List.any_cons, List.any_nil, Bool.or_false, Bool.or_eq_true, beq_iff_eq] at h
  rw [if_pos (by lia)]
theorem oA0 {y : Int} (h : ([10, 13].any fun x => x == o2L y) = false) : o2A y = 0 := by
  unfold o2A
  simp only [List.any_cons, List.any_nil, Bool.or_false, Bool.or_eq_false_iff, beq_eq_false_iff_ne] at h
  rw [if_neg (by lia)]
theorem oB1 {y : Int} (h : y < 0) : o2B y = 128 := by unfold o2B; rw [if_pos h]
theorem oB0 {y : Int} (h : ¬ y < 0) : o2B y = 0 := by unfold o2B; rw [if_neg h]
section
variable {vs' : List Value} {ns : List Int} {i : Nat} {y a b c : Int} {t u v : Tok}
theorem oc1 (hP : Keep (IntsAre vs' ((ns.take i).flatMap o2))) (hy : ns[i]? = some y) (h : o2 y = [a]) : IntsAre (vs' ++ [.int a t]) ((ns.take (i + 1)).flatMap o2) := by
  rw [oct_snoc hy, h]; exact IntsAre.append hP (.cons _ _ .nil)
theorem oc2 (hP : Keep (IntsAre vs' ((ns.take i).flatMap o2))) (hy : ns[i]? = some y) (h : o2 y = [a, b]) : IntsAre (vs' ++ [.int a t] ++ [.int b u]) ((ns.take (i + 1)).flatMap o2) := by
  rw [oct_snoc hy, h, List.append_assoc]; exact IntsAre.append hP (.cons _ _ (.cons _ _ .nil))
theorem oc3 (hP : Keep (IntsAre vs' ((ns.take i).flatMap o2))) (hy : ns[i]? = some y) (h : o2 y = [a, b, c]) : IntsAre (vs' ++ [.int a t] ++ [.int b u] ++ [.int c v]) ((ns.take (i + 1)).flatMap o2) := by
  rw [oct_snoc hy, h, List.append_assoc, List.append_assoc]; exact IntsAre.append hP (.cons _ _ (.cons _ _ (.cons _ _ .nil)))
end
section
variable {w : World} {p : Program} {loose : List Str} {mean : ExcName → Option Value} {mg mb : Str → Option Value}
section
local macro_rules | `(tactic| walk_at "pyIter ref") => `(tactic| ((have mk' : Marker := by with_reducible assumption); refine Stop.out ?_))
local macro_rules | `(tactic| walk_at "exec For Name Call cons nil") => `(tactic| ((have mk' : MarkF := by with_reducible assumption); clear mk'; refine Stop.out ?_))
local macro_rules | `(tactic| walk_at "Turn") => `(tactic| refine Stop.out ?_)
local macro_rules | `(tactic| walk_at "storeName") => `(tactic| (dsimp only; walk_at "storeName"))
local macro_rules | `(tactic| walk_at "newTuple") => `(tactic| (dsimp only; walk_at "newTuple"))
local macro_rules | `(tactic| walk_at "subscriptTail") => `(tactic| ((with_reducible show wpAny _ _ (subscriptTail _ _ (Value.ref _) (Value.int _ _)) _ _ _); refine Stop.out ?_))
local macro_rules | `(tactic| walk_at "call builtin:list.append") => `(tactic| ((try dsimp only [List.cons_append, List.nil_append]); (k_dflt (refine append_K (by k_asm) (by k_asm) (by k_upd) ?_ (by simp only [List.size_toArray, List.length_append, List.length_cons, List.length_nil, PySem.sizeLine_eq]; lia))); intro h' F' N'; (try simp only [List.push_toArray] at N'); (try dsimp only)))
local macro_rules | `(tactic| walk_at "UnrEnd") => `(tactic| (k_dflt (refine ⟨_, _, _, (_ :: _), rfl, (by assumption), (by assumption), (off_of (by assumption)), ?_⟩)))
local macro_rules | `(tactic| walk_at "eval IfExp") => `(tactic| ((have mk' : Marker := by with_reducible assumption); clear mk'; refine Stop.out ?_))
theorem octets_cl (l : Addr) (vs : List Value) (ns : List Int) (hI : IntsAre vs ns) (hlen : ns.length ≤ 20) :
   Cl PySem.Challenge.rw_ny0161_02.row.prog w (Mine.hdK w.params) p loose mean mg mb 79 0 (fun h => h.IsList l vs.toArray) [.ref l] (fun v nw => ∃ D n ws, v = .ref D ∧ nw = [(D, listOf ws.toArray n)] ∧ IntsAre ws (ns.flatMap o2)) := by
  k_fill
  refine Cl.intro (binds := [(Str.ofString "script", .ref l)]) (by k_is) (by k_is) (fun s X => BindsTo.of_eq rfl) (locs rfl) rfl rfl rfl (by decide) ?_
  intro dp un gd outer A₀ base g L' s B F N X T hx hdp hun
  have mk : Marker := trivial
  have hIK : Keep (IntsAre vs ns) := hI
  try k_fold
  k_steps
  unfold Stop
  rename_i l' h1 l1 h2 F2 N2 mk2
  clear mk2
  refine for_base (σ := List Value × Nat) (vs := vs) (fun c => [(l', listOf c.1.toArray c.2)]) (fun c => [(Str.ofString "octets", .ref l')]) ["rest", "width", "last", "high", "k"] (fun i c => IntsAre c.1 ((ns.take i).flatMap o2)) ([], 0) rfl hx F2 N2 (by intro q hq; rw [List.mem_singleton.mp hq]; exact rfl) .nil (fun i v c u h tk own hv hoff hP F3 N3 => ?_) (fun c u h tk hP F3 N3 => ?_)
  · clear F2 N2
    obtain ⟨y, ty, rfl, hy⟩ := IntsAre.at (show IntsAre vs ns from hIK) i v hv
    obtain ⟨vs', kk⟩ := c
    dsimp only [kstB] at F3 N3 hoff hP
    simp only [List.map_cons, List.map_nil] at hoff
    simp only [List.cons_append, List.nil_append] at N3
    replace F3 : Fr g L' h _ := F3
    replace N3 : News g L' h _ := N3
    have hcl : vs'.length ≤ 60 := by
      have h1 := hP.length
      have h2 := oct_len (ns.take i)
      rw [List.length_take] at h2
      lia
    have hP : Keep (IntsAre vs' ((ns.take i).flatMap o2)) := hP
    have mf : MarkF := trivial
    k_steps
    unfold Stop
    rename_i D4 h4 F4 N4 l4
    refine subTupInts (ns := [32, 9, 48, 61, 30, 63, 5, ((y.fdiv 8).fdiv 3).fmod 64]) (by k_asm) (by k_mem) (by l_ints) (fm (b := 8) (by decide)).1 (fm (b := 8) (by decide)).2 (by simp) ?_ (by with_unfolding_all rfl)
    intro t4
    k_steps
    unfold Stop
    rename_i h5 F5 N5
    refine evInt (s := s) (o2H y) F5 N5 ?_ (fun t6 h6 k6 F6 N6 => ?_)
    · clear mk
      k_steps
      · exact ⟨_, _, _, by unfold o2H; rw [if_pos (by with_reducible assumption)], rfl, F5, N5⟩
      · exact ⟨_, _, _, by unfold o2H; rw [if_neg (by with_reducible assumption)], rfl, F5, N5⟩
    clear F5 N5
    k_steps
    unfold Stop
    clear mf mk
    rename_i h7 F7 N7
    have hW : (y.fdiv 8).fmod 3 = 0 ∨ (y.fdiv 8).fmod 3 = 1 ∨ (y.fdiv 8).fmod 3 = 2 := by
      have := @fm (y.fdiv 8) 3 (by decide)
      lia
    have hL : ([32, 9, 48, 61, 30, 63, 5, ((y.fdiv 8).fdiv 3).fmod 64] : List Int).getD (y.fmod 8).toNat 0 = o2L y := rfl
    rw [hL] at F7
    have N8 : News g L' h7 ((l', listOf vs'.toArray kk) :: own) := fun p hp => N7 p (List.mem_cons_of_mem _ hp)
    clear N7
    rcases hW with hW | hW | hW
    · rw [hW] at F7
      k_steps
      all_goals unfold Stop
      all_goals (((refine turn_next (_, _) (by assumption) (by assumption) (by (dsimp only; k_allIn)) (by (intro p hp; k_ownIn)) (by (simp only [List.map_cons, List.map_nil]; assumption)) (by (refine List.forall_mem_cons.mpr ⟨?_, List.forall_mem_nil _⟩; (dsimp only; exact rfl))) (by ((intro z h1 h2 h3; (try dsimp only); repeat (first | with_reducible rfl | refine (if_neg (by first | exact h1 | exact Bool.eq_false_iff.mp h3 | exact off_sub h3 (by decide) | exact off_stored h3 rfl | exact h2 _ (.head _) | exact h2 _ (.tail _ (.head _)) | exact h2 _ (.tail _ (.tail _ (.head _))) | exact h2 _ (.tail _ (.tail _ (.tail _ (.head _)))))).trans ?_)))) ?_)))
      all_goals refine oc1 hP hy ?_
      all_goals (unfold o2; rw [show o2W y = 0 from hW, if_neg (by decide), if_pos rfl]; (((first | rw [oA1 (by with_reducible assumption)] | rw [oA0 (by with_reducible assumption)]); (first | rw [oB1 (by with_reducible assumption)] | rw [oB0 (by with_reducible assumption)]))); rfl)
    · rw [hW] at F7
      k_steps
      all_goals unfold Stop
      all_goals (((refine turn_next (_, _) (by assumption) (by assumption) (by (dsimp only; k_allIn)) (by (intro p hp; k_ownIn)) (by (simp only [List.map_cons, List.map_nil]; assumption)) (by (refine List.forall_mem_cons.mpr ⟨?_, List.forall_mem_nil _⟩; (dsimp only; exact rfl))) (by ((intro z h1 h2 h3; (try dsimp only); repeat (first | with_reducible rfl | refine (if_neg (by first | exact h1 | exact Bool.eq_false_iff.mp h3 | exact off_sub h3 (by decide) | exact off_stored h3 rfl | exact h2 _ (.head _) | exact h2 _ (.tail _ (.head _)) | exact h2 _ (.tail _ (.tail _ (.head _))) | exact h2 _ (.tail _ (.tail _ (.tail _ (.head _)))))).trans ?_)))) ?_)))
      all_goals refine oc2 hP hy ?_
      all_goals (unfold o2; rw [show o2W y = 1 from hW, if_neg (by decide), if_neg (by decide)]; (((first | rw [oA1 (by with_reducible assumption)] | rw [oA0 (by with_reducible assumption)]); (first | rw [oB1 (by with_reducible assumption)] | rw [oB0 (by with_reducible assumption)]))); rfl)
    · rw [hW] at F7
      k_steps
      all_goals try (exfalso; lia)
      all_goals unfold Stop
      all_goals (((refine turn_next (_, _) (by assumption) (by assumption) (by (dsimp only; k_allIn)) (by (intro p hp; k_ownIn)) (by (simp only [List.map_cons, List.map_nil]; assumption)) (by (refine List.forall_mem_cons.mpr ⟨?_, List.forall_mem_nil _⟩; (dsimp only; exact rfl))) (by ((intro z h1 h2 h3; (try dsimp only); repeat (first | with_reducible rfl | refine (if_neg (by first | exact h1 | exact Bool.eq_false_iff.mp h3 | exact off_sub h3 (by decide) | exact off_stored h3 rfl | exact h2 _ (.head _) | exact h2 _ (.tail _ (.head _)) | exact h2 _ (.tail _ (.tail _ (.head _))) | exact h2 _ (.tail _ (.tail _ (.tail _ (.head _)))))).trans ?_)))) ?_)))
      all_goals refine oc3 hP hy ?_
      all_goals (unfold o2; rw [show o2W y = 2 from hW, if_pos rfl, if_neg (by decide)]; (((first | rw [oA1 (by with_reducible assumption)] | rw [oA0 (by with_reducible assumption)]); (first | rw [oB1 (by with_reducible assumption)] | rw [oB0 (by with_reducible assumption)]))); rfl)
  · clear F2 N2
    dsimp only [kstB] at F3 N3
    replace F3 : Fr g L' h _ := F3
    replace N3 : News g L' h _ := N3
    k_steps
    have hlv := (show IntsAre vs ns from hIK).length
    rw [hlv, List.take_length] at hP
    exact ⟨_, _, _, _, rfl, ⟨l', _, _, rfl, rfl, hP⟩, F3, N3⟩
end
end
end Mine
-- text O3
namespace Mine
open PySem.Calls PySem.Spec
set_option maxRecDepth 100000
set_option maxHeartbeats 8000000
theorem numAll_take (l : List Nat) (i : Nat) {o : Nat} (h : l.reverse[i]? = some o) : (l.reverse.take (i + 1)).foldl numStep ([], 0, 0) = numStep ((l.reverse.take i).foldl numStep ([], 0, 0)) o := by
  rw [List.take_add_one, h]; simp
theorem o64 (o : Nat) : (o : Int).fmod 64 = ((o % 64 : Nat) : Int) := by
  rw [show (64 : Int) = ((64 : Nat) : Int) from rfl, Int.fmod_eq_emod_of_nonneg _ (Int.natCast_nonneg _)]; rfl
theorem oq (o : Nat) : ((o : Int).fdiv 64).fmod 2 = ((o / 64 % 2 : Nat) : Int) := by
  rw [Int.fdiv_eq_ediv_of_nonneg _ (by decide), Int.fmod_eq_emod_of_nonneg _ (by decide)]; lia
theorem num_len : ∀ (l : List Nat) (st : List Nat × Nat × Nat), (l.foldl numStep st).1.length ≤ st.1.length + l.length
  | [], _ => by simp
  | o :: l, st => by
    have h := num_len l (numStep st o)
    have h2 : (numStep st o).1.length ≤ st.1.length + 1 := by
      unfold numStep
      split
      · dsimp only
        split <;> simp
      · dsimp only; lia
    rw [List.foldl_cons, List.length_cons]
    lia
section
variable {w : World} {p : Program} {loose : List Str} {mean : ExcName → Option Value} {mg mb : Str → Option Value}
section
local macro_rules | `(tactic| walk_at "pyIter ref") => `(tactic| ((have mk' : Marker := by with_reducible assumption); refine Stop.out ?_))
local macro_rules | `(tactic| walk_at "exec For Name Subscript cons nil") => `(tactic| ((rename Fr _ _ _ _ => lF'); (with_unfolding_all refine' For_invVF lF' ?k1 ?k2 ?_; (case k1 => exact rfl); (case k2 => exact rfl); k_whole)))
local macro_rules | `(tactic| walk_at "Turn") => `(tactic| refine Stop.out ?_)
local macro_rules | `(tactic| walk_at "storeName") => `(tactic| (dsimp only; walk_at "storeName"))
theorem numbers_cl (l : Addr) (vs : List Value) (ns : List Nat) (hI : IntsAre vs (ns.map fun (c : Nat) => (c : Int))) (hlen : ns.length ≤ 2000) :
   Cl PySem.Challenge.rw_ny0161_02.row.prog w (Mine.hdK w.params) p loose mean mg mb 98 0 (fun h => h.IsList l vs.toArray) [.ref l] (fun v nw => ∃ D n ws, v = .ref D ∧ nw = [(D, listOf ws.toArray n)] ∧ IntsAre ws ((numF ns).map fun (c : Nat) => (c : Int))) := by
  k_fill
  refine Cl.intro (binds := [(Str.ofString "octets", .ref l)]) (by k_is) (by k_is) (fun s X => BindsTo.of_eq rfl) (locs rfl) rfl rfl rfl (by decide) ?_
  intro dp un gd outer A₀ base g L' s B F N X T hx hdp hun
  have mk : Marker := trivial
  have hvl : vs.length ≤ 2000 := by have := hI.length; rw [List.length_map] at this; lia
  try k_fold
  k_steps
  unfold Stop
  rename_i l' h1 h2 tk2 h3 tk3 h4 h0 D1 ws1 h5 F2 N2 hI2 hC2 l12 mk2
  clear mk2 mk
  rw [← List.map_reverse] at hI2
  refine for_led (σ := List Value × Nat × (Int × Tok) × (Int × Tok)) (l := D1) (vs := ws1) (nn := 0) (fun c => [(D1, listOf ws1.toArray 0), (l', listOf c.1.toArray c.2.1)])
    (fun c => [(Str.ofString "numbers", .ref l'), (Str.ofString "value", .int c.2.2.1.1 c.2.2.1.2), (Str.ofString "worth", .int c.2.2.2.1 c.2.2.2.2)]) ["value", "worth"]
    (fun i c => IntsAre c.1 (((ns.reverse.take i).foldl numStep ([], 0, 0)).1.map fun (c : Nat) => (c : Int)) ∧ c.2.2.1.1 = (((ns.reverse.take i).foldl numStep ([], 0, 0)).2.1 : Nat) ∧ c.2.2.2.1 = (((ns.reverse.take i).foldl numStep ([], 0, 0)).2.2 : Nat))
    ([], 0, (0, _), (0, _)) rfl (fun _ => .head _) F2 N2 (by refine List.forall_mem_cons.mpr ⟨?_, List.forall_mem_cons.mpr ⟨?_, List.forall_mem_cons.mpr ⟨?_, List.forall_mem_nil _⟩⟩⟩ <;> exact rfl) ⟨.nil, rfl, rfl⟩ (fun i v c u h tk own hv hoff hP F3 N3 => ?_) (fun c u h tk hP F3 N3 => ?_)
  · clear F2 N2
    obtain ⟨o, t, rfl, ho⟩ := ints_at hI2 hv
    obtain ⟨xs, ep, ⟨va, vt⟩, ⟨wo, wt⟩⟩ := c
    rw [numAll_take ns i ho]
    generalize hst : (ns.reverse.take i).foldl numStep ([], 0, 0) = st at hP ⊢
    have hsl := num_len (ns.reverse.take i) ([], 0, 0)
    rw [hst, List.length_take] at hsl
    obtain ⟨st1, st2, st3⟩ := st
    dsimp only [kstB] at F3 N3 hoff hP hsl
    obtain ⟨hP1, rfl, rfl⟩ := hP
    have hxl : xs.length ≤ 2000 := by
      have := hP1.length
      rw [List.length_map] at this
      simp only [List.length_nil, List.length_reverse] at hsl
      lia
    simp only [List.map_cons, List.map_nil] at hoff
    simp only [List.cons_append, List.nil_append] at N3
    replace F3 : Fr g L' h _ := F3
    replace N3 : News g L' h _ := N3
    k_steps
    all_goals unfold Stop
    · (((refine turn_next (_, _, (_, _), (_, _)) (by assumption) (by assumption) (by (dsimp only; k_allIn)) (by (intro p hp; k_ownIn)) (by (simp only [List.map_cons, List.map_nil]; assumption)) (by (refine List.forall_mem_cons.mpr ⟨?_, List.forall_mem_cons.mpr ⟨?_, List.forall_mem_cons.mpr ⟨?_, List.forall_mem_nil _⟩⟩⟩ <;> (dsimp only; exact rfl))) (by ((intro z h1 h2 h3; (try dsimp only); repeat (first | with_reducible rfl | refine (if_neg (by first | exact h1 | exact Bool.eq_false_iff.mp h3 | exact off_sub h3 (by decide) | exact off_stored h3 rfl | exact h2 _ (.head _) | exact h2 _ (.tail _ (.head _)) | exact h2 _ (.tail _ (.tail _ (.head _))) | exact h2 _ (.tail _ (.tail _ (.tail _ (.head _)))))).trans ?_)))) ?hp)))
      case hp =>
        unfold numStep
        dsimp only
        simp only [oq] at *
        rw [if_pos (by lia), if_pos (by lia)]
        refine ⟨?_, o64 o, rfl⟩
        rw [List.map_append, List.concat_eq_append]
        exact IntsAre.append hP1 (.cons _ _ .nil)
    · (((refine turn_next (_, _, (_, _), (_, _)) (by assumption) (by assumption) (by (dsimp only; k_allIn)) (by (intro p hp; k_ownIn)) (by (simp only [List.map_cons, List.map_nil]; assumption)) (by (refine List.forall_mem_cons.mpr ⟨?_, List.forall_mem_cons.mpr ⟨?_, List.forall_mem_cons.mpr ⟨?_, List.forall_mem_nil _⟩⟩⟩ <;> (dsimp only; exact rfl))) (by ((intro z h1 h2 h3; (try dsimp only); repeat (first | with_reducible rfl | refine (if_neg (by first | exact h1 | exact Bool.eq_false_iff.mp h3 | exact off_sub h3 (by decide) | exact off_stored h3 rfl | exact h2 _ (.head _) | exact h2 _ (.tail _ (.head _)) | exact h2 _ (.tail _ (.tail _ (.head _))) | exact h2 _ (.tail _ (.tail _ (.tail _ (.head _)))))).trans ?_)))) ?hp)))
      case hp =>
        unfold numStep
        dsimp only
        simp only [oq] at *
        rw [if_pos (by lia), if_neg (by lia)]
        exact ⟨hP1, o64 o, rfl⟩
    · (((refine turn_next (_, _, (_, _), (_, _)) (by assumption) (by assumption) (by (dsimp only; k_allIn)) (by (intro p hp; k_ownIn)) (by (simp only [List.map_cons, List.map_nil]; assumption)) (by (refine List.forall_mem_cons.mpr ⟨?_, List.forall_mem_cons.mpr ⟨?_, List.forall_mem_cons.mpr ⟨?_, List.forall_mem_nil _⟩⟩⟩ <;> (dsimp only; exact rfl))) (by ((intro z h1 h2 h3; (try dsimp only); repeat (first | with_reducible rfl | refine (if_neg (by first | exact h1 | exact Bool.eq_false_iff.mp h3 | exact off_sub h3 (by decide) | exact off_stored h3 rfl | exact h2 _ (.head _) | exact h2 _ (.tail _ (.head _)) | exact h2 _ (.tail _ (.tail _ (.head _))) | exact h2 _ (.tail _ (.tail _ (.tail _ (.head _)))))).trans ?_)))) ?hp)))
      case hp =>
        unfold numStep
        dsimp only
        simp only [oq] at *
        rw [if_neg (by lia)]
        refine ⟨hP1, ?_, ?_⟩
        · rw [o64]; simp
        · simp
  · clear F2 N2
    obtain ⟨xs, ep, ⟨va, vt⟩, ⟨wo, wt⟩⟩ := c
    have hvl2 : ws1.length = ns.reverse.length := by have := hI2.length; rwa [List.length_map] at this
    rw [hvl2, List.take_length] at hP
    generalize hst : ns.reverse.foldl numStep ([], 0, 0) = st at hP
    have hsl := num_len ns.reverse ([], 0, 0)
    rw [hst] at hsl
    have hF : numF ns = (if 0 < st.2.2 then st.1 ++ [st.2.1] else st.1).reverse := by unfold numF numAll; rw [hst]
    rw [hF]
    clear hF hst
    obtain ⟨st1, st2, st3⟩ := st
    dsimp only [kstB] at F3 N3 hP hsl ⊢
    obtain ⟨hP1, rfl, rfl⟩ := hP
    have hxl : xs.length ≤ 2000 := by
      have := hP1.length
      rw [List.length_map] at this
      simp only [List.length_nil, List.length_reverse] at hsl
      lia
    replace F3 : Fr g L' h _ := F3
    replace N3 : News g L' h _ := N3
    k_steps
    · rename News _ _ _ _ => NN
      refine ⟨_, _, _, _, rfl, ⟨_, _, _, rfl, rfl, ?_⟩, by assumption, fun p hp => NN p (List.mem_cons.mpr (.inl (List.mem_singleton.mp hp)))⟩
      rw [if_pos (by lia), List.map_reverse, List.map_append]
      assumption
    · rename News _ _ _ _ => NN
      refine ⟨_, _, _, _, rfl, ⟨_, _, _, rfl, rfl, ?_⟩, by assumption, fun p hp => NN p (List.mem_cons.mpr (.inl (List.mem_singleton.mp hp)))⟩
      rw [if_neg (by lia), List.map_reverse]
      with_reducible assumption
end
end
end Mine
-- text F2
namespace Mine
open PySem.Calls PySem.Spec
section
variable {prog : Program} {w : World} {A : Around} {E : Value → Shared → Prop} {s : Shared} {h₀ : Heap} {env : Env} {Q : Flow → Shared → Prop}
theorem asg2 {m : Str → Option Value} {news : List (Addr × Obj)} {a b : Str} {pa pb tp : Pos} {kk : Nat} {T : Addr} {va vb : Value} {Q : Unit → Shared → Prop} (hh : A.handled = none) (F : Fr h₀ env.locals s.heap m) (N : News h₀ env.locals s.heap news) (ht : IsTup s.heap T #[va, vb])
    (ha : env.kindOf a = some .local) (hb : env.kindOf b = some .local)
    (hp : (env.scope.kind == .class || (env.scope.kind == .module && env.locals != env.globals)) = false)
    (h : ∀ h' tk, Fr h₀ env.locals h' (fun y => if y = b then some vb else if y = a then some va else m y) → News h₀ env.locals h' news → Q () { s with heap := h', toks := tk }) :
    wpAny (model prog w) A (assign (.Tuple [.Name a pa, .Name b pb] kk tp) env (.ref T)) Q E s := by
  refine unpackN_ F N ht hh rfl rfl fun h₁ F₁ N₁ => ?_
  refine assignInOrder_cons (asgN F₁ N₁ ha hp fun h₂ t₂ F₂ N₂ => ?_)
  refine assignInOrder_cons (asgN F₂ N₂ hb hp fun h₃ t₃ F₃ N₃ => ?_)
  exact assignInOrder_nil (h h₃ t₃ F₃ N₃)
theorem for2 {σ : Type} {l : Addr} {vs : List Value} {m₀ : Str → Option Value} {a b : Str} {pa pb tp pos : Pos} {kk : Nat} {iter : Expr} {body : List Stmt} (X : Nat → Value → Value → Prop)
    (Led : σ → List (Addr × Obj)) (ps : σ → List (Str × Value)) (stored : List Str) (P : Nat → σ → Prop) (c₀ : σ)
    (hh : A.handled = none) (ha : env.kindOf a = some .local) (hb : env.kindOf b = some .local)
    (hsc : (env.scope.kind == .class || (env.scope.kind == .module && env.locals != env.globals)) = false)
    (sa : stored.contains a = true) (sb : stored.contains b = true)
    (hi : ∀ Q' : Value → Shared → Prop, Q' (.ref l) s → wpAny (model prog w) A (eval iter env) Q' E s)
    (hl : h₀.IsList l vs.toArray) (htup : ∀ i v, vs[i]? = some v → ∃ T va vb, v = .ref T ∧ IsTup h₀ T #[va, vb] ∧ X i va vb)
    (F : Fr h₀ env.locals s.heap m₀) (N : News h₀ env.locals s.heap (Led c₀)) (hk : ∀ p ∈ ps c₀, m₀ p.1 = some p.2) (hp : P 0 c₀)
    (turn : ∀ i va vb (cc : σ) (u : Str → Option Value) h tk (I : Addr) (oI : Obj), i < vs.length → X i va vb → (∀ q ∈ (Led cc).map (·.1), @Ne Nat I q) → oI.cls = .type "list_iterator" → P i cc →
      Fr h₀ env.locals h (fun y => if y = b then some vb else if y = a then some va else kstB (fun z => if stored.contains z then u z else m₀ z) (ps cc) y) → News h₀ env.locals h (Led cc ++ [(I, oI)]) →
      wpAny (model prog w) A (execs body env) (Turn h₀ env.locals s Led ps b stored m₀ (P (i + 1)) [(I, oI)] Q) E { s with heap := h, toks := tk })
    (done : ∀ (cc : σ) (u : Str → Option Value) h tk, P vs.length cc → Fr h₀ env.locals h (kstB (fun z => if stored.contains z then u z else m₀ z) (ps cc)) → News h₀ env.locals h (Led cc) → Q .next { s with heap := h, toks := tk })
    (hs : ∀ x, foldedSetIterable iter env x = pure x)
    (hE : PassesOwn (model prog w) A env E) :
    wpAny (model prog w) A (exec (.For (.Tuple [.Name a pa, .Name b pb] kk tp) iter body [] pos) env) Q E s := by
  have hls : s.heap.IsList l vs.toArray := hl.at fun o e => F.keep l o e
  refine wpAny_For (hi _ (wpAny_pyIter_list hls ?_)) hs
  have hI0 : h₀.get? s.heap.objs.size = none := next_is_new F
  have hIL : s.heap.objs.size ≠ env.locals := Nat.ne_of_gt F.ns.lt
  have hlI : l ≠ s.heap.objs.size := fun q => by obtain ⟨o, e, _⟩ := hls; have := Heap.lt_size e; rw [q] at this; exact Nat.lt_irrefl _ this
  refine codeAny_forLoop_any (R := fun r s' => match r with | .ok f => Q f s' | .error e => cameBackBy (model prog w) A env E e s')
    (fun k s' => ∃ h' tk cc m' i, s' = { s with heap := h', toks := tk } ∧ h'.IsListIter s.heap.objs.size l i ∧ Fr h₀ env.locals h' m' ∧ News h₀ env.locals h' (Led cc) ∧ (∀ p ∈ Led cc, p.1 ≠ s.heap.objs.size) ∧
      (∀ p ∈ ps cc, m' p.1 = some p.2) ∧ (∀ z, (∀ p ∈ ps cc, z ≠ p.1) → stored.contains z = false → m' z = m₀ z) ∧ P i cc ∧ i ≤ vs.length ∧ k = vs.length + 1 - i) ?_ (vs.length + 1)
    ⟨_, s.toks, c₀, m₀, 0, rfl, ⟨_, Heap.get?_push_size _ rfl, rfl, rfl⟩, F.push _, (fun p hp => ⟨Heap.get?_push_of_some _ (N p hp).1, (N p hp).2⟩), (fun p hp => Nat.ne_of_lt (Heap.lt_size (N p hp).1)), hk, fun _ _ _ => rfl, hp, Nat.zero_le _, rfl⟩
  rintro k s' ⟨h', tk, cc, m', i, rfl, hit, F', N', hoff, h1, h2, hP, hil, rfl⟩
  have hl' : h'.IsList l vs.toArray := hl.at fun o e => F'.keep l o e
  cases hv : vs[i]? with
  | none =>
    have hi' : i = vs.length := Nat.le_antisymm hil (by simpa using hv)
    subst hi'
    refine wpAny_pyNext_list_end hh hit hl' (by simpa using hv) fun h₁ he₁ => wpAny_execs_nil ?_
    have F₁ : Fr h₀ env.locals h₁ m' := ⟨F'.ns.at' fun o e => he₁ _ o (Ne.symm hIL) e, fun b o e => he₁ b o (fun q => by rw [q, hI0] at e; cases e) (F'.keep b o e), F'.above⟩
    exact done cc m' h₁ _ hP (ksw_fr h1 h2 F₁) fun p hp => ⟨he₁ _ _ (hoff p hp) (N' p hp).1, (N' p hp).2⟩
  | some v =>
    have hlt : i < vs.length := (List.getElem?_eq_some_iff.mp hv).1
    obtain ⟨T, va, vb, rfl, hT, hX⟩ := htup i v hv
    refine wpAny_pyNext_list_item hit hl' (x := .ref T) (by simpa using hv) fun h₁ hit₁ hs₁ => ?_
    have F₁ : Fr h₀ env.locals h₁ m' := F'.change hs₁ hIL hI0
    have N₁ : News h₀ env.locals h₁ (Led cc) := fun p hp => ⟨hs₁.extBut _ _ (hoff p hp) (N' p hp).1, (N' p hp).2⟩
    refine wpAny_letOwnedTupleGo_listiter hit₁ ?_
    obtain ⟨oI, eI, rI⟩ := hit₁
    have NI : News h₀ env.locals h₁ (Led cc ++ [(s.heap.objs.size, oI)]) := fun p hp => by
      rcases List.mem_append.mp hp with hp | hp
      · exact N₁ p hp
      · rw [List.mem_singleton.mp hp]; exact ⟨eI, hIL, hI0⟩
    refine asg2 hh (ksw_fr h1 h2 F₁) NI (hT.keeps F₁.keep) ha hb hsc fun h₂ tk₂ F₂ N₂ => ?_
    refine wpAny_passesOwn hE (wpAny_mono (turn i va vb cc m' h₂ tk₂ s.heap.objs.size oI hlt hX (fun b₁ hb₁ q => ?_) rI.1 hP F₂ N₂) (fun f s₃ q => ?_) fun _ _ e => e)
    · obtain ⟨r, hr, rfl⟩ := List.mem_map.mp hb₁
      exact hoff r hr q.symm
    have fin : TurnEnd h₀ env.locals s Led ps b stored m₀ (P (i + 1)) [(s.heap.objs.size, oI)] s₃ → ∃ m, m < vs.length + 1 - i ∧ ∃ h' tk cc m' i, s₃ = { s with heap := h', toks := tk } ∧ h'.IsListIter s.heap.objs.size l i ∧ Fr h₀ env.locals h' m' ∧ News h₀ env.locals h' (Led cc) ∧ (∀ p ∈ Led cc, p.1 ≠ s.heap.objs.size) ∧
      (∀ p ∈ ps cc, m' p.1 = some p.2) ∧ (∀ z, (∀ p ∈ ps cc, z ≠ p.1) → stored.contains z = false → m' z = m₀ z) ∧ P i cc ∧ i ≤ vs.length ∧ m = vs.length + 1 - i := by
      rintro ⟨c', h₃, tk₃, m₃, nw, rfl, F₃, N₃, hn, ho, hoo, hk₃, hr₃, hP₃⟩
      refine ⟨vs.length + 1 - (i + 1), by lia, h₃, tk₃, c', m₃, i + 1, rfl, ⟨oI, (N₃ _ (ho _ List.mem_cons_self)).1, rI⟩, F₃, (fun p hp => N₃ p (hn p hp)), (fun p hp q => ?_), hk₃, (fun z hz hzs => hr₃ z (fun q => by rw [q, sb] at hzs; cases hzs) hz hzs), hP₃, hlt, rfl⟩
      exact hoo _ List.mem_cons_self p.1 (List.mem_map.mpr ⟨p, hp, rfl⟩) q.symm
    cases f with
    | ret v => exact q
    | brk => exact q
    | next => exact fin q
    | cont => exact fin q
theorem news_ne {L : Addr} {h : Heap} {led : List (Addr × Obj)} {I D : Addr} {oI oD : Obj} (N : News h₀ L h led) (h1 : (I, oI) ∈ led) (h2 : (D, oD) ∈ led) (hc : oI.cls ≠ oD.cls) : I ≠ D := by
  rintro rfl
  have a := (N _ h1).1
  rw [(N _ h2).1] at a
  exact hc (congrArg Obj.cls (Option.some.inj a)).symm
end
end Mine
-- text O4
namespace Mine
open PySem.Calls PySem.Spec
set_option maxRecDepth 100000
set_option maxHeartbeats 40000000
/-- the tokens of the letter, as the heap holds them -/
noncomputable def ToksAt (h : Heap) (l : Addr) (e : List Nat) (L : List (Option Nat)) : Prop :=
  ∃ vs : List Value, h.IsList l vs.toArray ∧ vs.length = L.length ∧ ∀ (i : Nat) v, vs[i]? = some v → ∃ T s ts O os t, L[i]? = some t ∧ v = .ref T ∧ IsTup h T #[.str s ts, .ref O] ∧ ch s = sg e t ∧ h.IsList O (List.toArray os) ∧ IntsAre os ((oc t).map fun (c : Nat) => (c : Int))
theorem left_take {e : List Nat} {L : List (Option Nat)} {i : Nat} {t : Option Nat} {st : List Nat × Nat × Int × Int} (h : L[i]? = some t) : leftAll e (L.take (i + 1)) st = leftStep (leftAll e (L.take i) st) (tokT e t) := by
  rw [List.take_add_one, h, Option.toList, leftAll_app]; rfl
theorem left_len1 (st : List Nat × Nat × Int × Int) (t : List Nat × List Nat) (h1 : t.1.length ≤ 3) (h2 : t.2.length ≤ 1) : (leftStep st t).1.length ≤ st.1.length + 3 ∧ (leftStep st t).2.1 ≤ st.2.1 + 1 := by
  unfold leftStep
  have hd := List.length_drop (i := (max st.2.2.1 0).toNat) (l := t.1)
  have ht := List.length_take (i := (max st.2.2.2 0).toNat - (max st.2.2.1 0).toNat) (l := t.1.drop (max st.2.2.1 0).toNat)
  refine ⟨?_, ?_⟩
  · repeat' split
    all_goals (simp only [List.length_append, List.length_nil, List.length_singleton] at *)
    all_goals lia
  · repeat' split
    all_goals (dsimp only)
    all_goals lia
theorem left_len {e : List Nat} (he : e.length ≤ 2) : ∀ (L : List (Option Nat)) (st : List Nat × Nat × Int × Int), (leftAll e L st).1.length ≤ st.1.length + 3 * L.length ∧ (leftAll e L st).2.1 ≤ st.2.1 + L.length
  | [], _ => by simp [leftAll]
  | t :: L, st => by
    have h1 : (sg e t).length ≤ 3 := by
      cases t with
      | none => simp [sg]; lia
      | some c => exact (encC_len c).2
    have h2 : (oc t).length ≤ 1 := by cases t <;> simp [oc]
    have hs := left_len1 st (tokT e t) h1 h2
    have hi := left_len he L (leftStep st (tokT e t))
    rw [leftAll_cons, List.length_cons]
    lia
theorem left_bare1 {e : List Nat} {t : Option Nat} {st : List Nat × Nat × Int × Int} (h : st.2.1 ≤ st.1.length) : (leftStep st (tokT e t)).2.1 ≤ (leftStep st (tokT e t)).1.length := by
  unfold leftStep
  split
  · dsimp only
    split
    · rename_i hb
      have : (tokT e t).2.length = 1 := by
        rcases (sg_blank (e := e)).mp hb with rfl | rfl <;> rfl
      rw [List.length_append]; lia
    · lia
  · split
    · dsimp only; rw [List.length_append]; lia
    · split
      · dsimp only; lia
      · exact h
theorem left_bare {e : List Nat} : ∀ (L : List (Option Nat)) (st : List Nat × Nat × Int × Int), st.2.1 ≤ st.1.length → (leftAll e L st).2.1 ≤ (leftAll e L st).1.length
  | [], _, h => h
  | t :: L, st, h => by rw [leftAll_cons]; exact left_bare L _ (left_bare1 h)
theorem dt (l : List Nat) (a b : Nat) : (l.drop (min a l.length)).take (min b l.length - min a l.length) = (l.drop a).take (b - a) := by
  by_cases h : a ≤ l.length
  · rw [Nat.min_eq_left h]
    by_cases h2 : b ≤ l.length
    · rw [Nat.min_eq_left h2]
    · rw [Nat.min_eq_right (show l.length ≤ b by lia), List.take_of_length_le (by rw [List.length_drop]; lia), List.take_of_length_le (by rw [List.length_drop]; lia)]
  · rw [Nat.min_eq_right (show l.length ≤ a by lia), List.drop_length, List.drop_eq_nil_of_le (show l.length ≤ a by lia), List.take_nil, List.take_nil]
theorem part_ch {x : Str} {a b : Int} : ch (Txt.slice x (some (if 0 > a then 0 else a)) (some (if 0 > b then 0 else b))) = ((ch x).drop (max a 0).toNat).take ((max b 0).toNat - (max a 0).toNat) := by
  have e1 : ∀ c : Int, (if 0 > c then 0 else c) = max c 0 := by intro c; split <;> lia
  have e2 : ∀ (d : Nat) (c : Int), 0 ≤ c → clipN d (some c) x.length = min c.toNat x.length := by
    intro d c hc
    unfold clipN
    simp only []
    rw [if_neg (by lia)]
    lia
  rw [slice_gen, e1, e1, e2 _ _ (by lia), e2 _ _ (by lia), ← ch_len]
  exact dt _ _ _
section
variable {x : Str} {e : List Nat} {t : Option Nat} {s1 : List Nat} {s2 : Nat} {sa so : Int}
theorem sl_eq {y : Str} : (y == x) = true ↔ ch y = ch x := by
  rw [beq_iff_eq]
  exact ⟨fun h => by rw [h], ext_ch⟩
theorem sl_nil {y : Str} : (y != Str.ofString "") = true ↔ ch y ≠ [] := by
  have e : ch (Str.ofString "") = [] := by decide +kernel
  rw [bne_iff_ne, ne_eq, ne_eq, ← e]
  exact not_congr ⟨fun h => by rw [h], ext_ch⟩
theorem ls_full (hx : ch x = sg e t) (h : (Txt.slice x (some (if 0 > sa then 0 else sa)) (some (if 0 > so then 0 else so)) == x) = true) :
    leftStep (s1, s2, sa, so) (tokT e t) = (s1 ++ oc t, (if sg e t = [32] ∨ sg e t = [9] then s2 + 1 else 0), sa - x.length, so - x.length) := by
  rw [sl_eq, part_ch, hx] at h
  have hl := ch_len x
  rw [hx] at hl
  unfold leftStep tokT
  dsimp only
  rw [if_pos h, hl]
theorem ls_head (hx : ch x = sg e t) (h : (Txt.slice x (some (if 0 > sa then 0 else sa)) (some (if 0 > so then 0 else so)) == x) = false)
    (h2 : (Txt.slice x (some (if 0 > sa then 0 else sa)) (some (if 0 > so then 0 else so)) != Str.ofString "") = true) (h3 : 0 < if 0 > sa then 0 else sa) :
    leftStep (s1, s2, sa, so) (tokT e t) = (s1 ++ (if oc t ≠ [] then ch (Txt.slice x (some (if 0 > sa then 0 else sa)) (some (if 0 > so then 0 else so))) else [10]), s2, sa - x.length, so - x.length) := by
  have h := (Bool.eq_false_iff.mp h)
  rw [ne_eq, sl_eq, part_ch, hx] at h
  rw [sl_nil, part_ch, hx] at h2
  have hl := ch_len x
  rw [hx] at hl
  have h4 : 0 < sa := by split at h3 <;> lia
  unfold leftStep tokT
  dsimp only
  rw [if_neg h, if_pos ⟨h2, h4⟩, hl, part_ch, hx]
theorem ls_tail (hx : ch x = sg e t) (h : (Txt.slice x (some (if 0 > sa then 0 else sa)) (some (if 0 > so then 0 else so)) == x) = false)
    (h2 : (Txt.slice x (some (if 0 > sa then 0 else sa)) (some (if 0 > so then 0 else so)) != Str.ofString "") = true) (h3 : ¬ 0 < if 0 > sa then 0 else sa) :
    leftStep (s1, s2, sa, so) (tokT e t) = (s1 ++ (if oc t ≠ [] ∧ (Txt.slice x (some (if 0 > sa then 0 else sa)) (some (if 0 > so then 0 else so))).length = 2 then ch (Txt.slice x (some (if 0 > sa then 0 else sa)) (some (if 0 > so then 0 else so))) else []), 0, sa - x.length, so - x.length) := by
  have h := (Bool.eq_false_iff.mp h)
  rw [ne_eq, sl_eq, part_ch, hx] at h
  rw [sl_nil, part_ch, hx] at h2
  have hl := ch_len x
  rw [hx] at hl
  have h4 : ¬ 0 < sa := by split at h3 <;> lia
  unfold leftStep tokT
  dsimp only
  rw [if_neg h, if_neg (fun q => h4 q.2), if_pos h2, hl, ← ch_len (Txt.slice x _ _), part_ch, hx]
theorem ls_off (hx : ch x = sg e t) (h : (Txt.slice x (some (if 0 > sa then 0 else sa)) (some (if 0 > so then 0 else so)) == x) = false)
    (h2 : (Txt.slice x (some (if 0 > sa then 0 else sa)) (some (if 0 > so then 0 else so)) != Str.ofString "") = false) :
    leftStep (s1, s2, sa, so) (tokT e t) = (s1, s2, sa - x.length, so - x.length) := by
  have h := (Bool.eq_false_iff.mp h)
  rw [ne_eq, sl_eq, part_ch, hx] at h
  have h2 := (Bool.eq_false_iff.mp h2)
  rw [ne_eq, sl_nil, part_ch, hx] at h2
  have hl := ch_len x
  rw [hx] at hl
  unfold leftStep tokT
  dsimp only
  rw [if_neg h, if_neg (fun q => h2 q.1), if_neg h2, hl]
theorem bl_eq (hx : ch x = sg e t) : ([Str.ofString " ", Str.ofString "\t"].any fun y => y == x) = true ↔ (sg e t = [32] ∨ sg e t = [9]) := by
  have e1 : ch (Str.ofString " ") = [32] := by decide +kernel
  have e2 : ch (Str.ofString "\t") = [9] := by decide +kernel
  simp only [List.any_cons, List.any_nil, Bool.or_false, Bool.or_eq_true]
  rw [sl_eq, sl_eq, e1, e2, hx]
  constructor <;> rintro (h | h) <;> simp [h]
theorem os_nil {os : List Value} (hos : IntsAre os ((oc t).map fun (c : Nat) => (c : Int))) : os.isEmpty = true ↔ oc t = [] := by
  have h := hos.length
  rw [List.length_map] at h
  rw [List.isEmpty_iff]
  constructor <;> intro q
  · rw [q] at h; exact List.eq_nil_of_length_eq_zero h.symm
  · rw [q] at h; exact List.eq_nil_of_length_eq_zero h
end
section
variable {w : World} {p : Program} {loose : List Str} {mean : ExcName → Option Value} {mg mb : Str → Option Value}
section
local macro_rules | `(tactic| walk_at $k:str) => do
  if ["exec For Tuple", "Turn", "eval ListComp"].contains k.getString then `(tactic| refine Stop.out ?_) else Lean.Macro.throwUnsupported
local macro_rules | `(tactic| walk_at "storeName") => `(tactic| (dsimp only; walk_at "storeName"))
local macro_rules | `(tactic| walk_at "binaryOp Add ref ref") => `(tactic| ((rename Fr _ _ _ _ => FF'); (rename News _ _ _ _ => NN'); (k_dflt (refine add_lists FF' NN' (by is_list) (by is_list) ?_ (by simp only [List.length_cons, List.length_nil, PySem.sizeLine_eq]; lia))); intro h' F' N'))
theorem left_cl (l : Addr) (e : List Nat) (L : List (Option Nat)) (a b : Int) (ta tb : Tok) (he : e.length ≤ 2) (hL : L.length ≤ 1000) (ha : 0 ≤ a ∧ a ≤ 10000) (hb : 0 ≤ b ∧ b ≤ 10000) :
   Cl PySem.Challenge.rw_ny0161_02.row.prog w (Mine.hdK w.params) p loose mean mg mb 91 0 (fun h => ToksAt h l e L) [.ref l, .int a ta, .int b tb] (fun v nw => ∃ D n ws, v = .ref D ∧ nw = [(D, listOf ws.toArray n)] ∧ IntsAre ws ((leftF e L a b).map fun (c : Nat) => (c : Int))) := by
  k_fill
  refine Cl.intro (binds := [(Str.ofString "tokens", .ref l), (Str.ofString "start", .int a ta), (Str.ofString "stop", .int b tb)]) (by k_is) (by k_is) (fun s X => BindsTo.of_eq rfl) (locs rfl) rfl rfl rfl (by decide) ?_
  intro dp un gd outer A₀ base g L' s B F N X T hx hdp hun
  obtain ⟨vs, hl, hvl, hvs⟩ := hx
  try k_fold
  k_steps
  unfold Stop
  rename_i l' h1 l1 h2 tk2 h3 F2 N2
  refine for2 (σ := (Addr × List Value × Nat) × (Int × Tok) × (Int × Tok) × (Int × Tok)) (l := l) (vs := vs) (fun i va vb => ∃ s ts O os t, L[i]? = some t ∧ va = .str s ts ∧ vb = .ref O ∧ ch s = sg e t ∧ g.IsList O (List.toArray os) ∧ IntsAre os ((oc t).map fun (c : Nat) => (c : Int)))
    (fun c => [(c.1.1, listOf c.1.2.1.toArray c.1.2.2)]) (fun c => [(Str.ofString "told", .ref c.1.1), (Str.ofString "bare", .int c.2.1.1 c.2.1.2), (Str.ofString "start", .int c.2.2.1.1 c.2.2.1.2), (Str.ofString "stop", .int c.2.2.2.1 c.2.2.2.2)]) ["signs", "octets", "first", "part"]
    (fun i c => IntsAre c.1.2.1 ((leftAll e (L.take i) ([], 0, a, b)).1.map fun (c : Nat) => (c : Int)) ∧ c.2.1.1 = ((leftAll e (L.take i) ([], 0, a, b)).2.1 : Nat) ∧ c.2.2.1.1 = (leftAll e (L.take i) ([], 0, a, b)).2.2.1 ∧ c.2.2.2.1 = (leftAll e (L.take i) ([], 0, a, b)).2.2.2)
    ((l', [], 0), (0, _), (a, ta), (b, tb)) rfl rfl rfl rfl (by decide) (by decide) (fun Q' hq => by k_steps; exact hq) hl (fun i v hv => by
      obtain ⟨T, s, ts, O, os, t, hi, rfl, ht, h4, h5, h6⟩ := hvs i v hv
      exact ⟨T, _, _, rfl, ht, s, ts, O, os, t, hi, rfl, rfl, h4, h5, h6⟩) F2 N2 (by refine List.forall_mem_cons.mpr ⟨?_, List.forall_mem_cons.mpr ⟨?_, List.forall_mem_cons.mpr ⟨?_, List.forall_mem_cons.mpr ⟨?_, List.forall_mem_nil _⟩⟩⟩⟩ <;> exact rfl) ⟨.nil, rfl, rfl, rfl⟩ (fun i va vb c u h3 tk3 I oI hi hX hoff hIc hP F3 N3 => ?_) (fun c u h3 tk3 hP F3 N3 => ?_) (fun _ => rfl) (by passes_own)
  · clear F2 N2
    obtain ⟨x, ts, O, os, t, hit, rfl, rfl, hx, hO, hos⟩ := hX
    obtain ⟨⟨D, xs, ep⟩, ⟨ba, bt⟩, ⟨sa, st'⟩, ⟨so, sot⟩⟩ := c
    rw [left_take hit]
    have hll := left_len he (L.take i) ([], 0, a, b)
    generalize hst : leftAll e (L.take i) ([], 0, a, b) = st at hP hll ⊢
    obtain ⟨s1, s2, s3, s4⟩ := st
    dsimp only [kstB] at F3 N3 hoff hP hll
    obtain ⟨hP1, rfl, rfl, rfl⟩ := hP
    have hit2 : i < L.length := by rw [← hvl]; exact hi
    have hxl : xs.length ≤ 3000 := by
      have := hP1.length
      rw [List.length_map] at this
      simp only [List.length_nil, List.length_take] at hll
      lia
    have hsl : x.length ≤ 3 := by
      rw [← ch_len, hx]
      cases t with
      | none => simp [sg]; lia
      | some c => exact (encC_len c).2
    have hol : os.length ≤ 1 := by
      have := hos.length
      rw [List.length_map] at this
      rw [this]
      cases t <;> simp [oc]
    have hID : @Ne Nat I D := hoff D (by simp)
    simp only [List.cons_append, List.nil_append] at N3
    replace F3 : Fr g L' h3 _ := F3
    replace N3 : News g L' h3 _ := N3
    obtain ⟨mT, hmT, F3⟩ := fr_gen (P := fun mT => Fr g L' h3 (fun y => if y = Str.ofString "octets" then some (.ref O) else if y = Str.ofString "signs" then some (.str x ts) else if y = Str.ofString "told" then some (.ref D) else if y = Str.ofString "bare" then some (.int (s2 : Nat) bt) else if y = Str.ofString "start" then some (.int sa st') else if y = Str.ofString "stop" then some (.int so sot) else mT y)) F3
    refine post_var fun TT hTT => ?_
    k_steps
    all_goals try unfold Stop
    · subst hTT
      rw [ls_full hx (by with_reducible assumption), if_pos ((bl_eq hx).mp (by with_reducible assumption))]
      (((rename Fr _ _ _ _ => FF'); (rename News _ _ _ _ => NN'); (refine turn_next ((_, _, _), (_, _), (_, _), (_, _)) FF' NN' (by (intro p hp; rw [List.mem_singleton.mp hp]; k_mem)) (by (intro p hp; rw [List.mem_singleton.mp hp]; k_mem)) (by (intro p hp b hb; rw [List.mem_singleton.mp hp]; rw [List.mem_singleton.mp hb]; exact news_ne NN' (by k_mem) (by k_mem) (by (have hq := (by with_reducible assumption : Obj.cls _ = Value.type "list_iterator"); rw [hq]; exact (by decide : Value.type "list_iterator" ≠ Value.type "list"))))) (by (refine List.forall_mem_cons.mpr ⟨?_, List.forall_mem_cons.mpr ⟨?_, List.forall_mem_cons.mpr ⟨?_, List.forall_mem_cons.mpr ⟨?_, List.forall_mem_nil _⟩⟩⟩⟩ <;> (dsimp only; exact rfl))) (by ((intro z h1 h2 h3; (try dsimp only); repeat (first | with_reducible rfl | exact (congrFun hmT z).trans (if_neg (Bool.eq_false_iff.mp h3)) | refine (if_neg (by first | exact h1 | exact Bool.eq_false_iff.mp h3 | exact off_stored h3 rfl | exact h2 _ (.head _) | exact h2 _ (.tail _ (.head _)) | exact h2 _ (.tail _ (.tail _ (.head _))) | exact h2 _ (.tail _ (.tail _ (.tail _ (.head _)))))).trans ?_)))) ?hp)))
      case hp =>
        refine ⟨?_, by dsimp only; lia, rfl, rfl⟩
        rw [List.map_append]
        exact IntsAre.append hP1 hos
    · subst hTT
      rw [ls_full hx (by with_reducible assumption), if_neg (fun q => Bool.eq_false_iff.mp (by with_reducible assumption) ((bl_eq hx).mpr q))]
      (((rename Fr _ _ _ _ => FF'); (rename News _ _ _ _ => NN'); (refine turn_next ((_, _, _), (_, _), (_, _), (_, _)) FF' NN' (by (intro p hp; rw [List.mem_singleton.mp hp]; k_mem)) (by (intro p hp; rw [List.mem_singleton.mp hp]; k_mem)) (by (intro p hp b hb; rw [List.mem_singleton.mp hp]; rw [List.mem_singleton.mp hb]; exact news_ne NN' (by k_mem) (by k_mem) (by (have hq := (by with_reducible assumption : Obj.cls _ = Value.type "list_iterator"); rw [hq]; exact (by decide : Value.type "list_iterator" ≠ Value.type "list"))))) (by (refine List.forall_mem_cons.mpr ⟨?_, List.forall_mem_cons.mpr ⟨?_, List.forall_mem_cons.mpr ⟨?_, List.forall_mem_cons.mpr ⟨?_, List.forall_mem_nil _⟩⟩⟩⟩ <;> (dsimp only; exact rfl))) (by ((intro z h1 h2 h3; (try dsimp only); repeat (first | with_reducible rfl | exact (congrFun hmT z).trans (if_neg (Bool.eq_false_iff.mp h3)) | refine (if_neg (by first | exact h1 | exact Bool.eq_false_iff.mp h3 | exact off_stored h3 rfl | exact h2 _ (.head _) | exact h2 _ (.tail _ (.head _)) | exact h2 _ (.tail _ (.tail _ (.head _))) | exact h2 _ (.tail _ (.tail _ (.tail _ (.head _)))))).trans ?_)))) ?hp)))
      case hp =>
        refine ⟨?_, rfl, rfl, rfl⟩
        rw [List.map_append]
        exact IntsAre.append hP1 hos
    · subst hTT
      rw [ls_head hx (by with_reducible assumption) (by with_reducible assumption) (by with_reducible assumption), if_neg (fun q => q ((os_nil hos).mp (by with_reducible assumption)))]
      (((rename Fr _ _ _ _ => FF'); (rename News _ _ _ _ => NN'); (refine turn_next ((_, _, _), (_, _), (_, _), (_, _)) FF' NN' (by (intro p hp; rw [List.mem_singleton.mp hp]; k_mem)) (by (intro p hp; rw [List.mem_singleton.mp hp]; k_mem)) (by (intro p hp b hb; rw [List.mem_singleton.mp hp]; rw [List.mem_singleton.mp hb]; exact news_ne NN' (by k_mem) (by k_mem) (by (have hq := (by with_reducible assumption : Obj.cls _ = Value.type "list_iterator"); rw [hq]; exact (by decide : Value.type "list_iterator" ≠ Value.type "list"))))) (by (refine List.forall_mem_cons.mpr ⟨?_, List.forall_mem_cons.mpr ⟨?_, List.forall_mem_cons.mpr ⟨?_, List.forall_mem_cons.mpr ⟨?_, List.forall_mem_nil _⟩⟩⟩⟩ <;> (dsimp only; exact rfl))) (by ((intro z h1 h2 h3; (try dsimp only); repeat (first | with_reducible rfl | exact (congrFun hmT z).trans (if_neg (Bool.eq_false_iff.mp h3)) | refine (if_neg (by first | exact h1 | exact Bool.eq_false_iff.mp h3 | exact off_stored h3 rfl | exact h2 _ (.head _) | exact h2 _ (.tail _ (.head _)) | exact h2 _ (.tail _ (.tail _ (.head _))) | exact h2 _ (.tail _ (.tail _ (.tail _ (.head _)))))).trans ?_)))) ?hp)))
      case hp =>
        refine ⟨?_, rfl, rfl, rfl⟩
        rw [List.map_append]
        exact IntsAre.append hP1 (.cons _ _ .nil)
    · refine comp_str (y := Txt.slice x (some (if 0 > sa then 0 else sa)) (some (if 0 > so then 0 else so))) (t := _) (fun c => (c : Int)) (by k_asm) (by k_asm) rfl (by with_unfolding_all rfl) (by decide) rfl (by decide) rfl (by size_fits) (fun Q' hq => by k_steps; exact hq) (fun C oC m₂ c u s₃ E' nC hm F₃ N₃ => ?_) (fun D2 n2 ys h9 tk9 hys F9 N9 off9 => ?_) (fun _ => rfl)
      · try k_fold
        k_steps
        exact ⟨_, _, rfl, fun _ _ e => e⟩
      · have hyl : ys.length ≤ 3 := by
          have := hys.length
          rw [List.length_map, ch_len] at this
          lia
        k_steps
        subst hTT
        rw [ls_head hx (by with_reducible assumption) (by with_reducible assumption) (by with_reducible assumption), if_pos (fun q => Bool.eq_false_iff.mp (by with_reducible assumption) ((os_nil hos).mpr q))]
        (((rename Fr _ _ _ _ => FF'); (rename News _ _ _ _ => NN'); (refine turn_next ((_, _, _), (_, _), (_, _), (_, _)) FF' NN' (by (intro p hp; rw [List.mem_singleton.mp hp]; k_mem)) (by (intro p hp; rw [List.mem_singleton.mp hp]; k_mem)) (by (intro p hp b hb; rw [List.mem_singleton.mp hp]; rw [List.mem_singleton.mp hb]; exact news_ne NN' (by k_mem) (by k_mem) (by (have hq := (by with_reducible assumption : Obj.cls _ = Value.type "list_iterator"); rw [hq]; exact (by decide : Value.type "list_iterator" ≠ Value.type "list"))))) (by (refine List.forall_mem_cons.mpr ⟨?_, List.forall_mem_cons.mpr ⟨?_, List.forall_mem_cons.mpr ⟨?_, List.forall_mem_cons.mpr ⟨?_, List.forall_mem_nil _⟩⟩⟩⟩ <;> (dsimp only; exact rfl))) (by ((intro z h1 h2 h3; (try dsimp only); repeat (first | with_reducible rfl | exact (congrFun hmT z).trans (if_neg (Bool.eq_false_iff.mp h3)) | refine (if_neg (by first | exact h1 | exact Bool.eq_false_iff.mp h3 | exact off_stored h3 rfl | exact h2 _ (.head _) | exact h2 _ (.tail _ (.head _)) | exact h2 _ (.tail _ (.tail _ (.head _))) | exact h2 _ (.tail _ (.tail _ (.tail _ (.head _)))))).trans ?_)))) ?hp)))
        case hp =>
          refine ⟨?_, rfl, rfl, rfl⟩
          rw [List.map_append]
          exact IntsAre.append hP1 hys
    · subst hTT
      rw [ls_tail hx (by with_reducible assumption) (by with_reducible assumption) (by with_reducible assumption), if_neg (fun q => q.1 ((os_nil hos).mp (by with_reducible assumption)))]
      (((rename Fr _ _ _ _ => FF'); (rename News _ _ _ _ => NN'); (refine turn_next ((_, _, _), (_, _), (_, _), (_, _)) FF' NN' (by (intro p hp; rw [List.mem_singleton.mp hp]; k_mem)) (by (intro p hp; rw [List.mem_singleton.mp hp]; k_mem)) (by (intro p hp b hb; rw [List.mem_singleton.mp hp]; rw [List.mem_singleton.mp hb]; exact news_ne NN' (by k_mem) (by k_mem) (by (have hq := (by with_reducible assumption : Obj.cls _ = Value.type "list_iterator"); rw [hq]; exact (by decide : Value.type "list_iterator" ≠ Value.type "list"))))) (by (refine List.forall_mem_cons.mpr ⟨?_, List.forall_mem_cons.mpr ⟨?_, List.forall_mem_cons.mpr ⟨?_, List.forall_mem_cons.mpr ⟨?_, List.forall_mem_nil _⟩⟩⟩⟩ <;> (dsimp only; exact rfl))) (by ((intro z h1 h2 h3; (try dsimp only); repeat (first | with_reducible rfl | exact (congrFun hmT z).trans (if_neg (Bool.eq_false_iff.mp h3)) | refine (if_neg (by first | exact h1 | exact Bool.eq_false_iff.mp h3 | exact off_stored h3 rfl | exact h2 _ (.head _) | exact h2 _ (.tail _ (.head _)) | exact h2 _ (.tail _ (.tail _ (.head _))) | exact h2 _ (.tail _ (.tail _ (.tail _ (.head _)))))).trans ?_)))) ?hp)))
      case hp =>
        refine ⟨?_, rfl, rfl, rfl⟩
        rw [List.append_nil, List.append_nil]
        exact hP1
    · refine comp_str (y := Txt.slice x (some (if 0 > sa then 0 else sa)) (some (if 0 > so then 0 else so))) (t := _) (fun c => (c : Int)) (by k_asm) (by k_asm) rfl (by with_unfolding_all rfl) (by decide) rfl (by decide) rfl (by size_fits) (fun Q' hq => by k_steps; exact hq) (fun C oC m₂ c u s₃ E' nC hm F₃ N₃ => ?_) (fun D2 n2 ys h9 tk9 hys F9 N9 off9 => ?_) (fun _ => rfl)
      · try k_fold
        k_steps
        exact ⟨_, _, rfl, fun _ _ e => e⟩
      · have hyl : ys.length ≤ 3 := by
          have := hys.length
          rw [List.length_map, ch_len] at this
          lia
        k_steps
        subst hTT
        rw [ls_tail hx (by with_reducible assumption) (by with_reducible assumption) (by with_reducible assumption), if_pos ⟨fun q => Bool.eq_false_iff.mp (by with_reducible assumption) ((os_nil hos).mpr q), by lia⟩]
        (((rename Fr _ _ _ _ => FF'); (rename News _ _ _ _ => NN'); (refine turn_next ((_, _, _), (_, _), (_, _), (_, _)) FF' NN' (by (intro p hp; rw [List.mem_singleton.mp hp]; k_mem)) (by (intro p hp; rw [List.mem_singleton.mp hp]; k_mem)) (by (intro p hp b hb; rw [List.mem_singleton.mp hp]; rw [List.mem_singleton.mp hb]; exact news_ne NN' (by k_mem) (by k_mem) (by (have hq := (by with_reducible assumption : Obj.cls _ = Value.type "list_iterator"); rw [hq]; exact (by decide : Value.type "list_iterator" ≠ Value.type "list"))))) (by (refine List.forall_mem_cons.mpr ⟨?_, List.forall_mem_cons.mpr ⟨?_, List.forall_mem_cons.mpr ⟨?_, List.forall_mem_cons.mpr ⟨?_, List.forall_mem_nil _⟩⟩⟩⟩ <;> (dsimp only; exact rfl))) (by ((intro z h1 h2 h3; (try dsimp only); repeat (first | with_reducible rfl | exact (congrFun hmT z).trans (if_neg (Bool.eq_false_iff.mp h3)) | refine (if_neg (by first | exact h1 | exact Bool.eq_false_iff.mp h3 | exact off_stored h3 rfl | exact h2 _ (.head _) | exact h2 _ (.tail _ (.head _)) | exact h2 _ (.tail _ (.tail _ (.head _))) | exact h2 _ (.tail _ (.tail _ (.tail _ (.head _)))))).trans ?_)))) ?hp)))
        case hp =>
          refine ⟨?_, rfl, rfl, rfl⟩
          rw [List.map_append]
          exact IntsAre.append hP1 hys
    · subst hTT
      rw [ls_tail hx (by with_reducible assumption) (by with_reducible assumption) (by with_reducible assumption), if_neg (fun q => by have := q.2; lia)]
      (((rename Fr _ _ _ _ => FF'); (rename News _ _ _ _ => NN'); (refine turn_next ((_, _, _), (_, _), (_, _), (_, _)) FF' NN' (by (intro p hp; rw [List.mem_singleton.mp hp]; k_mem)) (by (intro p hp; rw [List.mem_singleton.mp hp]; k_mem)) (by (intro p hp b hb; rw [List.mem_singleton.mp hp]; rw [List.mem_singleton.mp hb]; exact news_ne NN' (by k_mem) (by k_mem) (by (have hq := (by with_reducible assumption : Obj.cls _ = Value.type "list_iterator"); rw [hq]; exact (by decide : Value.type "list_iterator" ≠ Value.type "list"))))) (by (refine List.forall_mem_cons.mpr ⟨?_, List.forall_mem_cons.mpr ⟨?_, List.forall_mem_cons.mpr ⟨?_, List.forall_mem_cons.mpr ⟨?_, List.forall_mem_nil _⟩⟩⟩⟩ <;> (dsimp only; exact rfl))) (by ((intro z h1 h2 h3; (try dsimp only); repeat (first | with_reducible rfl | exact (congrFun hmT z).trans (if_neg (Bool.eq_false_iff.mp h3)) | refine (if_neg (by first | exact h1 | exact Bool.eq_false_iff.mp h3 | exact off_stored h3 rfl | exact h2 _ (.head _) | exact h2 _ (.tail _ (.head _)) | exact h2 _ (.tail _ (.tail _ (.head _))) | exact h2 _ (.tail _ (.tail _ (.tail _ (.head _)))))).trans ?_)))) ?hp)))
      case hp =>
        refine ⟨?_, rfl, rfl, rfl⟩
        rw [List.append_nil, List.append_nil]
        exact hP1
    · subst hTT
      rw [ls_off hx (by with_reducible assumption) (by with_reducible assumption)]
      (((rename Fr _ _ _ _ => FF'); (rename News _ _ _ _ => NN'); (refine turn_next ((_, _, _), (_, _), (_, _), (_, _)) FF' NN' (by (intro p hp; rw [List.mem_singleton.mp hp]; k_mem)) (by (intro p hp; rw [List.mem_singleton.mp hp]; k_mem)) (by (intro p hp b hb; rw [List.mem_singleton.mp hp]; rw [List.mem_singleton.mp hb]; exact news_ne NN' (by k_mem) (by k_mem) (by (have hq := (by with_reducible assumption : Obj.cls _ = Value.type "list_iterator"); rw [hq]; exact (by decide : Value.type "list_iterator" ≠ Value.type "list"))))) (by (refine List.forall_mem_cons.mpr ⟨?_, List.forall_mem_cons.mpr ⟨?_, List.forall_mem_cons.mpr ⟨?_, List.forall_mem_cons.mpr ⟨?_, List.forall_mem_nil _⟩⟩⟩⟩ <;> (dsimp only; exact rfl))) (by ((intro z h1 h2 h3; (try dsimp only); repeat (first | with_reducible rfl | exact (congrFun hmT z).trans (if_neg (Bool.eq_false_iff.mp h3)) | refine (if_neg (by first | exact h1 | exact Bool.eq_false_iff.mp h3 | exact off_stored h3 rfl | exact h2 _ (.head _) | exact h2 _ (.tail _ (.head _)) | exact h2 _ (.tail _ (.tail _ (.head _))) | exact h2 _ (.tail _ (.tail _ (.tail _ (.head _)))))).trans ?_)))) ?hp)))
      case hp => exact ⟨hP1, rfl, rfl, rfl⟩
  · clear F2 N2
    obtain ⟨⟨D, xs, ep⟩, ⟨ba, bt⟩, ⟨sa, st'⟩, ⟨so, sot⟩⟩ := c
    rw [hvl, List.take_length] at hP
    have hll := left_len he L ([], 0, a, b)
    have hF : leftF e L a b = cutB (leftAll e L ([], 0, a, b)) := rfl
    have hbr := left_bare (e := e) L ([], 0, a, b) (Nat.le_refl _)
    generalize leftAll e L ([], 0, a, b) = st at hP hll hF hbr
    obtain ⟨s1, s2, s3, s4⟩ := st
    dsimp only [kstB] at F3 N3 hP hll hbr
    obtain ⟨hP1, rfl, rfl, rfl⟩ := hP
    have hxl : xs.length ≤ 3000 := by
      have := hP1.length
      rw [List.length_map] at this
      simp only [List.length_nil] at hll
      lia
    replace F3 : Fr g L' h3 _ := F3
    replace N3 : News g L' h3 _ := N3
    k_steps
    refine Calls.call_len_list (items := xs.toArray) ⟨_, (N3 _ List.mem_cons_self).1, rfl, _, rfl⟩ (by rw [List.size_toArray]; show _ < _; lia) ?_
    rw [List.size_toArray]
    k_steps
    · exfalso
      have hxs := hP1.length
      rw [List.length_map] at hxs
      lia
    · have hxs := hP1.length
      rw [List.length_map] at hxs
      rename News _ _ _ _ => NN
      refine ⟨_, _, _, _, rfl, ⟨_, _, _, rfl, rfl, ?_⟩, by with_reducible assumption, fun p hp => NN p (List.mem_cons.mpr (.inl (List.mem_singleton.mp hp)))⟩
      rw [hF]
      have e1 : cutB (s1, s2, sa, so) = s1.take (xs.length - s2 : Int).toNat := by
        show s1.take (s1.length - s2) = _
        rw [← hxs]
        congr 1
        lia
      rw [e1, List.map_take]
      assumption
end
end
end Mine
-- text O5
namespace Mine
open PySem.Calls PySem.Spec
set_option maxRecDepth 100000
set_option maxHeartbeats 40000000
/-- the tokens in a ledger -/
noncomputable def ToksIn (ws : List Value) (tups : List (Addr × Obj)) (e : List Nat) (L : List (Option Nat)) : Prop :=
  ws.length = L.length ∧ ∀ (i : Nat) (v : Value), ws[i]? = some v → ∃ T n s ts O os n' t, L[i]? = some t ∧ v = .ref T ∧ (T, tupOf [.str s ts, .ref O] n) ∈ tups ∧ ch s = sg e t ∧ (O, listOf (List.toArray os) n') ∈ tups ∧ IntsAre os ((oc t).map fun (c : Nat) => (c : Int))
theorem ToksIn.nil {tups : List (Addr × Obj)} {e : List Nat} : ToksIn [] tups e [] := ⟨rfl, fun i v h => by simp at h⟩
theorem ToksIn.snoc {ws : List Value} {tups tups' : List (Addr × Obj)} {e : List Nat} {L : List (Option Nat)} {T : Addr} {n : Nat} {s : Str} {ts : Tok} {O : Addr} {os : List Value} {n' : Nat} {t : Option Nat} (h : ToksIn ws tups e L) (hs : ∀ p ∈ tups, p ∈ tups')
    (h1 : (T, tupOf [.str s ts, .ref O] n) ∈ tups') (h2 : ch s = sg e t) (h3 : (O, listOf (List.toArray os) n') ∈ tups') (h4 : IntsAre os ((oc t).map fun (c : Nat) => (c : Int))) : ToksIn (ws ++ [.ref T]) tups' e (L ++ [t]) := by
  refine ⟨by simp [h.1], fun i v hv => ?_⟩
  by_cases hi : i < ws.length
  · rw [List.getElem?_append_left hi] at hv
    obtain ⟨T, n, s, ts, O, os, n', t, a1, a2, a3, a4, a5, a6⟩ := h.2 i v hv
    exact ⟨T, n, s, ts, O, os, n', t, by rw [List.getElem?_append_left (by rw [← h.1]; exact hi)]; exact a1, a2, hs _ a3, a4, hs _ a5, a6⟩
  · have e : i = ws.length := by
      have := (List.getElem?_eq_some_iff.mp hv).1
      simp at this; lia
    subst e
    have hv' : v = .ref T := by simpa using hv.symm
    exact ⟨T, n, s, ts, O, os, n', t, by rw [h.1]; simp, hv', h1, h2, h3, h4⟩
theorem fig_at : ∀ d : Fin 16, Txt.find (Str.ofString "0123456789ABCDEF") ⟨#[hexDig d.val]⟩ = (d.val : Int) := by decide +kernel
section
variable {prog : Program} {w : World} {A : Around} {E : Value → Shared → Prop} {s : Shared}
theorem idx_fig {d : Nat} {t u : Tok} {Q : Value → Shared → Prop} (hd : d < 16) (hA : A.handled = none) (h : Q (.int (d : Int) s.toks) { s with toks := s.toks + 1 }) :
    wpAny (model prog w) A (call (.builtin "str.index") [.str (Str.ofString "0123456789ABCDEF") t, .str ⟨#[hexDig d]⟩ u]) Q E s := by
  have e : Txt.find (Str.ofString "0123456789ABCDEF") ⟨#[hexDig d]⟩ = (d : Int) := fig_at ⟨d, hd⟩
  refine index_or hA (fun q => ?_) (fun _ _ => by rw [e]; exact h)
  rw [e] at q
  lia
end
/-- where the letter stands at a token's head -/
theorem tok_here {x : Str} {e : List Nat} {L : List (Option Nat)} {i : Nat} {t : Option Nat} (hx : ch x = flatT e L) (hi : L[i]? = some t) :
    (ch x).drop (flatT e (L.take i)).length = sg e t ++ flatT e (L.drop (i + 1)) ∧ (flatT e (L.take (i + 1))).length = (flatT e (L.take i)).length + (sg e t).length ∧ (flatT e (L.take i)).length + (sg e t).length ≤ x.length := by
  have hsp : L = L.take i ++ t :: L.drop (i + 1) := by
    have := List.getElem?_eq_some_iff.mp hi
    obtain ⟨h1, h2⟩ := this
    rw [← h2, List.getElem_cons_drop, List.take_append_drop]
  have e1 : flatT e L = flatT e (L.take i) ++ (sg e t ++ flatT e (L.drop (i + 1))) := by
    conv => lhs; rw [hsp]
    rw [flatT_app, flatT_cons]
  refine ⟨?_, ?_, ?_⟩
  · rw [hx, e1, List.drop_left]
  · rw [List.take_add_one, hi, Option.toList, flatT_app, flatT_cons, List.length_append, List.length_append]; simp [flatT]
  · rw [← ch_len, hx, e1, List.length_append, List.length_append]; lia
theorem flatT_len {e : List Nat} (he : e.length ≤ 2) : ∀ L : List (Option Nat), (flatT e L).length ≤ 3 * L.length
  | [] => by simp [flatT]
  | t :: L => by
    have h1 : (sg e t).length ≤ 3 := by
      cases t with
      | none => simp [sg]; lia
      | some c => exact (encC_len c).2
    have h2 := flatT_len he L
    rw [flatT_cons, List.length_append, List.length_cons]
    lia
theorem tkGetD {l r : List Nat} {k a : Nat} (h : l.drop k = a :: r) : l.getD k 0 = a := by
  have := congrArg (fun z => z.getD 0 0) h
  simpa [List.getD_eq_getElem?_getD] using this
theorem tk_item {x : Str} {K a : Nat} {r : List Nat} (hlt : (K : Int) < x.length) (q : (ch x).drop K = a :: r) : Txt.item x (K : Int) = ⟨#[a]⟩ := by
  rw [item_ch (by lia) hlt]
  have : (K : Int).toNat = K := rfl
  rw [this, tkGetD q]
theorem tk_eq {x : Str} {K : Nat} {e r : List Nat} (hlt : (K : Int) < x.length) (q : (ch x).drop K = sg e none ++ r) : (Txt.item x (K : Int) == Str.ofString "=") = true := by
  rw [tk_item hlt (show (ch x).drop K = 61 :: (e ++ r) from q)]; decide +kernel
theorem tk_slice {x : Str} {a b : Nat} : ch (Txt.slice x (some (a : Int)) (some (b : Int))) = ((ch x).drop a).take (b - a) := by
  have e2 : ∀ (d c : Nat), clipN d (some (c : Int)) x.length = min c x.length := by
    intro d c
    unfold clipN
    simp only []
    rw [if_neg (by lia)]
    lia
  rw [slice_gen, e2, e2, ← ch_len]
  by_cases h : a ≤ (ch x).length
  · rw [Nat.min_eq_left h]
    by_cases h2 : b ≤ (ch x).length
    · rw [Nat.min_eq_left h2]
    · rw [Nat.min_eq_right (show (ch x).length ≤ b by lia), List.take_of_length_le (by rw [List.length_drop]; lia), List.take_of_length_le (by rw [List.length_drop]; lia)]
  · rw [Nat.min_eq_right (show (ch x).length ≤ a by lia), List.drop_eq_nil_of_le (Nat.le_refl _), List.drop_eq_nil_of_le (show (ch x).length ≤ a by lia), List.take_nil, List.take_nil]
theorem tk_end {x y : Str} {K : Nat} {r : List Nat} (q : (ch x).drop K = sg (ch y) none ++ r) : (Txt.slice x (some ((K : Int) + 1)) (some ((K : Int) + 1 + (y.length : Int))) == y) = true := by
  rw [beq_iff_eq]
  refine ext_ch ?_
  have e1 : ((K : Int) + 1) = ((K + 1 : Nat) : Int) := by lia
  have e2 : ((K : Int) + 1 + (y.length : Int)) = ((K + 1 + y.length : Nat) : Int) := by lia
  rw [e2, e1, tk_slice, ← List.drop_drop, q]
  show ((61 :: (ch y ++ r)).drop 1).take _ = _
  rw [List.drop_succ_cons, List.drop_zero, show K + 1 + y.length - (K + 1) = (ch y).length by rw [ch_len]; lia, List.take_left]
theorem tk_sg {x : Str} {e r : List Nat} {t : Option Nat} {K : Nat} {b : Int} (q : (ch x).drop K = sg e t ++ r) (hb : b = ((K + (sg e t).length : Nat) : Int)) : ch (Txt.slice x (some (K : Int)) (some b)) = sg e t := by
  subst hb
  rw [tk_slice, q, Nat.add_sub_cancel_left, List.take_left]
theorem tk_ne {c : Nat} (h : c ≠ 61) : ((⟨#[c]⟩ : Str) == Str.ofString "=") = false := by
  rw [beq_eq_false_iff_ne]
  intro q
  have := congrArg ch q
  rw [show ch (Str.ofString "=") = [61] by decide +kernel] at this
  exact h (List.cons.inj this).1
theorem tk_item2 {x : Str} {K j a : Nat} {b : List Nat} (hlt : (K : Int) + (j : Int) < x.length) (q : ((ch x).drop K).drop j = a :: b) : Txt.item x ((K : Int) + (j : Int)) = ⟨#[a]⟩ := by
  have e : (K : Int) + (j : Int) = ((K + j : Nat) : Int) := by lia
  rw [e] at hlt ⊢
  rw [List.drop_drop] at q
  exact tk_item hlt q
theorem tk_noend {x y : Str} {K c : Nat} {r : List Nat} (he : EndOk (ch y)) (q : (ch x).drop K = sg (ch y) (some c) ++ r) (hsg : sg (ch y) (some c) = [61, hexDig (c / 16), hexDig (c % 16)]) (hc : c / 16 < 16) :
    (Txt.slice x (some ((K : Int) + 1)) (some ((K : Int) + 1 + (y.length : Int))) == y) = false := by
  rw [beq_eq_false_iff_ne]
  intro z
  have z := congrArg ch z
  have e1 : ((K : Int) + 1) = ((K + 1 : Nat) : Int) := by lia
  have e2 : ((K : Int) + 1 + (y.length : Int)) = ((K + 1 + y.length : Nat) : Int) := by lia
  rw [e2, e1, tk_slice, ← List.drop_drop, q, hsg, show K + 1 + y.length - (K + 1) = (ch y).length by rw [ch_len]; lia] at z
  have hd := hexDig_ne _ hc
  rcases he with h | h | h <;> rw [h] at z <;> simp at z
  · exact hd.2.2.2.2.2.1 z
  · exact hd.2.2.2.2.2.2.1 z.1
  · exact hd.2.2.2.2.2.2.1 z
section
variable {w : World} {p : Program} {loose : List Str} {mean : ExcName → Option Value} {mg mb : Str → Option Value}
section
local macro_rules | `(tactic| walk_at $k:str) => do
  if k.getString == "storeName" then `(tactic| (dsimp only; walk_at "storeName")) else if ["exec While Compare cons nil", "KswEnd", "call builtin:str.index", "call builtin:list.append"].contains k.getString then `(tactic| refine Stop.out ?_) else Lean.Macro.throwUnsupported
theorem tokens_cl (x y : Str) (tx ty : Tok) (L : List (Option Nat)) (he : EndOk (ch y)) (hL : TokOk L) (hx : ch x = flatT (ch y) L) (hlen : L.length ≤ 1000) :
   Cl PySem.Challenge.rw_ny0161_02.row.prog w (Mine.hdK w.params) p loose mean mg mb 86 0 (fun _ => True) [.str x tx, .str y ty] (fun v nw => ∃ D n ws tups, v = .ref D ∧ nw = (D, listOf (List.toArray ws) n) :: tups ∧ ToksIn ws tups (ch y) L) := by
  k_fill
  refine Cl.intro (binds := [(Str.ofString "letter", .str x tx), (Str.ofString "ends", .str y ty)]) (by k_is) (by k_is) (fun s X => BindsTo.of_eq rfl) (locs rfl) rfl rfl rfl (by decide) ?_
  intro dp un gd outer A₀ base g L' s B F N X T _ hdp hun
  try k_fold
  k_steps
  unfold Stop
  rename_i h1 tk1 l' h2 l1 h3 tk3 h4 F2 N2
  have hyl : y.length ≤ 2 := by rw [← ch_len]; rcases he with h | h | h <;> rw [h] <;> decide
  have hxl : x.length ≤ 3000 := by
    rw [← ch_len, hx]
    exact Nat.le_trans (flatT_len (by rw [ch_len]; exact hyl) L) (by lia)
  refine ksw_while (σ := (List Value × Nat × List (Addr × Obj)) × Int × Tok) (fun c => (l', listOf (List.toArray c.1.1) c.1.2.1) :: c.1.2.2) (fun c => [(Str.ofString "tokens", .ref l'), (Str.ofString "k", .int c.2.1 c.2.2)]) (fun _ => True) ["size", "octets"]
    (fun c => ∃ i, i ≤ L.length ∧ c.2.1 = ((flatT (ch y) (L.take i)).length : Nat) ∧ ToksIn c.1.1 c.1.2.2 (ch y) (L.take i) ∧ ∀ p ∈ c.1.2.2, p.1 ≠ l') (fun c => x.length - c.2.1.toNat) (([], 0, []), 0, _) F2 N2 trivial (by refine List.forall_mem_cons.mpr ⟨?_, List.forall_mem_cons.mpr ⟨?_, List.forall_mem_nil _⟩⟩ <;> exact rfl) ⟨0, Nat.zero_le _, rfl, .nil, fun p hp => nomatch hp⟩ (fun c u h tk _ hP F3 N3 => ?_)
  clear F2 N2
  obtain ⟨⟨ws, ep, tups⟩, k, kt⟩ := c
  obtain ⟨i, hi, hk, hT, hoff⟩ := hP
  dsimp only [kstB] at F3 N3 hk hT hoff
  subst hk
  have hwl : ws.length ≤ 1000 := by rw [hT.1, List.length_take]; lia
  replace F3 : Fr g L' h _ := F3
  replace N3 : News g L' h _ := N3
  cases ht : L[i]? with
  | none =>
    have hil : i = L.length := Nat.le_antisymm hi (by simpa using ht)
    subst hil
    rw [List.take_length] at hT F3
    have hke : (flatT (ch y) L).length = x.length := by rw [← hx, ch_len]
    rw [hke] at F3
    k_steps
    exact ⟨_, _, _, _, rfl, ⟨l', _, ws, tups, rfl, rfl, hT⟩, by with_reducible assumption, by with_reducible assumption⟩
  | some t =>
    obtain ⟨q1, q2, q3⟩ := tok_here hx ht
    have htk : L.take (i + 1) = L.take i ++ [t] := by rw [List.take_add_one, ht]; rfl
    rw [htk] at q2
    generalize hK : (flatT (ch y) (L.take i)).length = K at F3 q1 q2 q3
    have hsl : 1 ≤ (sg (ch y) t).length := sg_len t
    have hlt : (K : Int) < x.length := by lia
    cases t with
    | none =>
      have hi1 : (Txt.item x (K : Int) == Str.ofString "=") = true := tk_eq hlt q1
      have hs1 : (Txt.slice x (some ((K : Int) + 1)) (some ((K : Int) + 1 + (y.length : Int))) == y) = true := tk_end q1
      k_steps
      unfold Stop
      k_dflt (refine append_K (by k_asm) (by k_asm) (by (first | exact Upd.head (by with_reducible assumption) | (refine' Upd.tail ?a ?b; (case a => k_ne); (case b => (first | exact Upd.head (by with_reducible assumption) | (refine' Upd.tail ?a ?b; (case a => k_ne); (case b => (first | exact Upd.head (by with_reducible assumption) | (refine' Upd.tail ?a ?b; (case a => k_ne); (case b => exact Upd.head (by with_reducible assumption))))))))))) ?_ (by simp only [List.size_toArray, PySem.sizeLine_eq]; lia))
      intro h' F' N'
      try simp only [List.push_toArray] at N'
      try dsimp only
      k_steps
      unfold Stop
      rename_i lA g8 lB g7 k7 a7 g6 t6 k6 a6 g5 k5 O2 g4 lO g3 k3 g2 t2 k2 a2 T2 g1 lT g9 F4 N4
      refine ksw_end ((ws ++ [.ref T2], ep + 1, [(T2, tupOf [.str (Txt.slice x (some (K : Int)) (some ((K : Int) + (1 + (y.length : Int))))) t2, .ref O2] 0), (O2, listOf #[] 0)] ++ tups), (K : Int) + (1 + (y.length : Int)), k2) F4 N4 ?hn trivial ?hk ?hr ⟨i + 1, by have := (List.getElem?_eq_some_iff.mp ht).1; lia, ?_, ?_, ?_⟩ ?hm
      case hn =>
        intro p hp
        simp only [List.mem_cons, List.mem_append, List.not_mem_nil, or_false] at hp ⊢
        rcases hp with h | (h | h) | h <;> simp [h]
      case hk => refine List.forall_mem_cons.mpr ⟨?_, List.forall_mem_cons.mpr ⟨?_, List.forall_mem_nil _⟩⟩ <;> (dsimp only; exact rfl)
      case hr => (intro z h2 h3; (try dsimp only); repeat (first | with_reducible rfl | refine (if_neg (by first | exact Bool.eq_false_iff.mp h3 | exact off_sub h3 (by decide) | exact off_stored h3 rfl | exact h2 _ (.head _) | exact h2 _ (.tail _ (.head _)) | exact h2 _ (.tail _ (.tail _ (.head _))) | exact h2 _ (.tail _ (.tail _ (.tail _ (.head _)))))).trans ?_))
      case hm =>
        dsimp only
        simp only [sg, List.length_cons, ch_len] at q3
        lia
      · dsimp only
        rw [htk, q2]
        simp only [sg, List.length_cons, ch_len]
        lia
      · rw [htk]
        exact ToksIn.snoc hT (fun p hp => List.mem_append.mpr (.inr hp)) (n := 0) (List.mem_append.mpr (.inl List.mem_cons_self)) (tk_sg q1 (by simp only [sg, List.length_cons, ch_len]; lia)) (os := []) (n' := 0) (List.mem_append.mpr (.inl (List.mem_cons_of_mem _ List.mem_cons_self))) .nil
      · intro p hp
        simp only [List.mem_cons, List.mem_append, List.not_mem_nil, or_false] at hp
        rcases hp with (h | h) | h
        · rw [h]; exact Nat.ne_of_gt lT.2.2.1
        · rw [h]; exact Nat.ne_of_gt lO.2.1
        · exact hoff p h
    | some c =>
      have hc := hL c (List.mem_of_getElem? ht)
      cases hp : plainC c with
      | true =>
        have hsg : sg (ch y) (some c) = [c] := encC_plain hp
        have hit : Txt.item x (K : Int) = ⟨#[c]⟩ := tk_item hlt (by rw [q1, hsg]; rfl)
        have hi1 : (Txt.item x (K : Int) == Str.ofString "=") = false := by
          rw [hit]
          exact tk_ne (fun q => by rw [q] at hp; exact absurd hp (by decide))
        k_steps
        unfold Stop
        k_dflt (refine append_K (by k_asm) (by k_asm) (by (first | exact Upd.head (by with_reducible assumption) | (refine' Upd.tail ?a ?b; (case a => k_ne); (case b => (first | exact Upd.head (by with_reducible assumption) | (refine' Upd.tail ?a ?b; (case a => k_ne); (case b => (first | exact Upd.head (by with_reducible assumption) | (refine' Upd.tail ?a ?b; (case a => k_ne); (case b => exact Upd.head (by with_reducible assumption))))))))))) ?_ (by simp only [List.size_toArray, PySem.sizeLine_eq]; lia))
        intro h' F' N'
        try simp only [List.push_toArray] at N'
        try dsimp only
        k_steps
        unfold Stop
        rename_i k9 a9 O2 g4 lO g3 k8 a8 k7 a7 k6 g2 t2 k2 a2 T2 g1 lT g9 F4 N4
        refine ksw_end ((ws ++ [.ref T2], ep + 1, [(T2, tupOf [.str (Txt.slice x (some (K : Int)) (some ((K : Int) + 1))) t2, .ref O2] 0), (O2, listOf #[.int ((Txt.item x (K : Int)).cps.getD 0 0 : Nat) (k9 + 1)] 0)] ++ tups), (K : Int) + 1, k2) F4 N4 ?hn trivial ?hk ?hr ⟨i + 1, by have := (List.getElem?_eq_some_iff.mp ht).1; lia, ?_, ?_, ?_⟩ ?hm
        case hn =>
          intro p hp
          simp only [List.mem_cons, List.mem_append, List.not_mem_nil, or_false] at hp ⊢
          rcases hp with h | (h | h) | h <;> simp [h]
        case hk => refine List.forall_mem_cons.mpr ⟨?_, List.forall_mem_cons.mpr ⟨?_, List.forall_mem_nil _⟩⟩ <;> (dsimp only; exact rfl)
        case hr => (intro z h2 h3; (try dsimp only); repeat (first | with_reducible rfl | refine (if_neg (by first | exact Bool.eq_false_iff.mp h3 | exact off_sub h3 (by decide) | exact off_stored h3 rfl | exact h2 _ (.head _) | exact h2 _ (.tail _ (.head _)) | exact h2 _ (.tail _ (.tail _ (.head _))) | exact h2 _ (.tail _ (.tail _ (.tail _ (.head _)))))).trans ?_))
        case hm =>
          dsimp only
          lia
        · dsimp only
          rw [htk, q2, hsg]
          simp only [List.length_cons, List.length_nil]
          lia
        · rw [htk]
          exact ToksIn.snoc hT (fun p hp => List.mem_append.mpr (.inr hp)) (n := 0) (List.mem_append.mpr (.inl List.mem_cons_self)) (tk_sg q1 (by rw [hsg]; simp only [List.length_cons, List.length_nil]; lia)) (os := [.int ((Txt.item x (K : Int)).cps.getD 0 0 : Nat) (k9 + 1)]) (n' := 0) (List.mem_append.mpr (.inl (List.mem_cons_of_mem _ List.mem_cons_self))) (by rw [hit]; exact .cons _ _ .nil)
        · intro p hp
          simp only [List.mem_cons, List.mem_append, List.not_mem_nil, or_false] at hp
          rcases hp with (h | h) | h
          · rw [h]; exact Nat.ne_of_gt lT.2.1
          · rw [h]; exact Nat.ne_of_gt lO.1
          · exact hoff p h
      | false =>
        have hsg : sg (ch y) (some c) = [61, hexDig (c / 16), hexDig (c % 16)] := by show encC c = _; unfold encC; rw [hp]; rfl
        have hit : Txt.item x (K : Int) = ⟨#[61]⟩ := tk_item hlt (by rw [q1, hsg]; rfl)
        have hi1 : (Txt.item x (K : Int) == Str.ofString "=") = true := by rw [hit]; decide +kernel
        have hs1 : (Txt.slice x (some ((K : Int) + 1)) (some ((K : Int) + 1 + (y.length : Int))) == y) = false := tk_noend he q1 hsg (by lia)
        have hl3 : K + 3 ≤ x.length := by rw [hsg] at q3; exact q3
        have hi2 : Txt.item x ((K : Int) + 1) = ⟨#[hexDig (c / 16)]⟩ := tk_item2 (j := 1) (by lia) (by rw [q1, hsg]; rfl)
        have hi3 : Txt.item x ((K : Int) + 2) = ⟨#[hexDig (c % 16)]⟩ := tk_item2 (j := 2) (by lia) (by rw [q1, hsg]; rfl)
        k_steps
        unfold Stop
        rw [hi2]
        refine idx_fig (by lia) rfl ?_
        k_steps
        unfold Stop
        rw [hi3]
        refine idx_fig (by lia) rfl ?_
        k_steps
        unfold Stop
        k_dflt (refine append_K (by k_asm) (by k_asm) (by (first | exact Upd.head (by with_reducible assumption) | (refine' Upd.tail ?a ?b; (case a => k_ne); (case b => (first | exact Upd.head (by with_reducible assumption) | (refine' Upd.tail ?a ?b; (case a => k_ne); (case b => (first | exact Upd.head (by with_reducible assumption) | (refine' Upd.tail ?a ?b; (case a => k_ne); (case b => exact Upd.head (by with_reducible assumption))))))))))) ?_ (by simp only [List.size_toArray, PySem.sizeLine_eq]; lia))
        intro h' F' N'
        try simp only [List.push_toArray] at N'
        try dsimp only
        k_steps
        unfold Stop
        rename_i k9 a9 a8 O2 g4 lO g3 k8 g2 t2 k2 a2 T2 g1 lT g9 F4 N4
        refine ksw_end ((ws ++ [.ref T2], ep + 1, [(T2, tupOf [.str (Txt.slice x (some (K : Int)) (some ((K : Int) + 3))) t2, .ref O2] 0), (O2, listOf #[.int (16 * ((c / 16 : Nat) : Int) + ((c % 16 : Nat) : Int)) (k9 + 1 + 1 + 1 + 1 + 1 + 1 + 1 + 1 + 1 + 1)] 0)] ++ tups), (K : Int) + 3, k2) F4 N4 ?hn trivial ?hk ?hr ⟨i + 1, by have := (List.getElem?_eq_some_iff.mp ht).1; lia, ?_, ?_, ?_⟩ ?hm
        case hn =>
          intro p hp
          simp only [List.mem_cons, List.mem_append, List.not_mem_nil, or_false] at hp ⊢
          rcases hp with h | (h | h) | h <;> simp [h]
        case hk => refine List.forall_mem_cons.mpr ⟨?_, List.forall_mem_cons.mpr ⟨?_, List.forall_mem_nil _⟩⟩ <;> (dsimp only; exact rfl)
        case hr => (intro z h2 h3; (try dsimp only); repeat (first | with_reducible rfl | refine (if_neg (by first | exact Bool.eq_false_iff.mp h3 | exact off_sub h3 (by decide) | exact off_stored h3 rfl | exact h2 _ (.head _) | exact h2 _ (.tail _ (.head _)) | exact h2 _ (.tail _ (.tail _ (.head _))) | exact h2 _ (.tail _ (.tail _ (.tail _ (.head _)))))).trans ?_))
        case hm =>
          dsimp only
          lia
        · dsimp only
          rw [htk, q2, hsg]
          simp only [List.length_cons, List.length_nil]
          lia
        · rw [htk]
          exact ToksIn.snoc hT (fun p hp => List.mem_append.mpr (.inr hp)) (n := 0) (List.mem_append.mpr (.inl List.mem_cons_self)) (tk_sg q1 (by rw [hsg]; simp only [List.length_cons, List.length_nil]; lia)) (os := [.int (16 * ((c / 16 : Nat) : Int) + ((c % 16 : Nat) : Int)) (k9 + 1 + 1 + 1 + 1 + 1 + 1 + 1 + 1 + 1 + 1)]) (n' := 0) (List.mem_append.mpr (.inl (List.mem_cons_of_mem _ List.mem_cons_self))) (by rw [show (16 * ((c / 16 : Nat) : Int) + ((c % 16 : Nat) : Int)) = (c : Int) by lia]; exact .cons _ _ .nil)
        · intro p hp
          simp only [List.mem_cons, List.mem_append, List.not_mem_nil, or_false] at hp
          rcases hp with (h | h) | h
          · rw [h]; exact Nat.ne_of_gt lT.2.2.1
          · rw [h]; exact Nat.ne_of_gt lO.2.1
          · exact hoff p h
end
end
end Mine
-- text O6
namespace Mine
open PySem.Calls PySem.Spec
theorem o2L_bd (x : Int) : 0 ≤ o2L x ∧ o2L x < 64 := by
  unfold o2L
  have h := @fm x 8 (by decide)
  have h2 := @fm ((x.fdiv 8).fdiv 3) 64 (by decide)
  generalize ((x.fdiv 8).fdiv 3).fmod 64 = q at h2 ⊢
  have hk : (x.fmod 8).toNat < 8 := by lia
  generalize (x.fmod 8).toNat = k at hk ⊢
  have : k = 0 ∨ k = 1 ∨ k = 2 ∨ k = 3 ∨ k = 4 ∨ k = 5 ∨ k = 6 ∨ k = 7 := by lia
  rcases this with rfl | rfl | rfl | rfl | rfl | rfl | rfl | rfl <;> simp <;> lia
theorem o2_ok (x : Int) : ∀ c ∈ o2 x, 0 ≤ c ∧ c < 256 ∧ c ≠ 10 ∧ c ≠ 13 := by
  intro c hc
  have hL := o2L_bd x
  have f1 := @fm ((o2H x).fdiv (64 ^ 1)) 64 (by decide)
  have f0 := @fm ((o2H x).fdiv (64 ^ 0)) 64 (by decide)
  unfold o2 at hc
  rcases List.mem_append.mp hc with hc | hc
  · rcases List.mem_append.mp hc with hc | hc
    · split at hc
      · rw [List.mem_singleton.mp hc]; lia
      · cases hc
    · split at hc
      · cases hc
      · rw [List.mem_singleton.mp hc]; lia
  · rw [List.mem_singleton.mp hc]
    unfold o2A o2B
    split <;> split <;> lia
/-- the row's octets -/
noncomputable def octN (ns : List Int) : List Nat := (ns.flatMap o2).map Int.toNat
theorem octN_cast (ns : List Int) : (octN ns).map (fun (c : Nat) => (c : Int)) = ns.flatMap o2 := by
  unfold octN
  rw [List.map_map]
  conv => rhs; rw [← List.map_id (ns.flatMap o2)]
  refine List.map_congr_left fun c hc => ?_
  obtain ⟨x, _, hx⟩ := List.mem_flatMap.mp hc
  have := (o2_ok x c hx).1
  show ((c.toNat : Nat) : Int) = c
  lia
theorem octN_ok (ns : List Int) : LineOk (octN ns) := by
  intro d hd
  obtain ⟨c, hc, rfl⟩ := List.mem_map.mp hd
  obtain ⟨x, _, hx⟩ := List.mem_flatMap.mp hc
  have := o2_ok x c hx
  lia
theorem octN_len (ns : List Int) : (octN ns).length ≤ 3 * ns.length := by
  unfold octN
  rw [List.length_map]
  exact oct_len ns
theorem o2_two : o2 2 = [48] := by decide +kernel
theorem octN_end (ns : List Int) : octN (ns ++ [98300, 0, 1, 35, 2]) = octN (ns ++ [98300, 0, 1, 35]) ++ [48] := by
  unfold octN
  simp only [List.flatMap_append, List.flatMap_cons, List.flatMap_nil, List.map_append, o2_two]
  simp
end Mine
-- text O7
namespace Mine
open PySem.Calls PySem.Spec
theorem joinL_one2 : ∀ l : List Nat, joinL (ch (Str.ofString "")) (l.map fun c => [c]) = l
  | [] => rfl
  | [_] => rfl
  | a :: b :: r => by
    have e : ch (Str.ofString "") = [] := by decide +kernel
    have := joinL_one2 (b :: r)
    rw [e] at *
    show [a] ++ [] ++ joinL [] ((b :: r).map fun c => [c]) = a :: b :: r
    rw [this]; rfl
theorem NoAdj.tail {t : Option Nat} {L : List (Option Nat)} (h : NoAdj (t :: L)) : NoAdj L := fun A B q => h (t :: A) B (by rw [q]; rfl)
theorem adj_len : ∀ L : List (Option Nat), NoAdj L → L.length ≤ 2 * (octT L).length + 1 ∧ ((∀ r, L ≠ Option.none :: r) → L.length ≤ 2 * (octT L).length)
  | [], _ => by simp
  | Option.some c :: r, h => by
    have := (adj_len r h.tail).1
    rw [octT_cons]
    simp only [oc, List.length_append, List.length_cons, List.length_nil]
    exact ⟨by lia, fun _ => by lia⟩
  | Option.none :: r, h => by
    have := (adj_len r h.tail).2 (fun r' q => h [] r' (by rw [q]; rfl))
    rw [octT_cons]
    simp only [oc, List.length_append, List.length_cons, List.length_nil]
    exact ⟨by lia, fun q => absurd rfl (q r)⟩
section
variable {prog : Program} {w : World} {A : Around} {E : Value → Shared → Prop} {s : Shared} {h₀ : Heap} {L : Addr} {news : List (Addr × Obj)}
theorem subTup3 {value slice : Expr} {D : Addr} {a b c : Value} {n : Nat} {i : Int} {u : Tok} {Q : Value → Shared → Prop} (N : News h₀ L s.heap news) (hm : (D, tupOf [a, b, c] n) ∈ news) (h0 : 0 ≤ i) (h1 : i < 3)
    (h : ∀ v, (v = a ∨ v = b ∨ v = c) → Q v s) (hs : subscripted slice false (.ref D) (.int i u) = operate [.ref D, .int i u] (getItem (.ref D) (.int i u))) :
    wpAny (model prog w) A (subscriptTail value slice (.ref D) (.int i u)) Q E s := by
  obtain ⟨j, hj⟩ : ∃ j : Nat, i = j := ⟨i.toNat, by lia⟩
  have hj3 : j < 3 := by lia
  obtain ⟨v, hv, hq⟩ : ∃ v, ([a, b, c] : List Value)[j]? = some v ∧ (v = a ∨ v = b ∨ v = c) := by
    match j, hj3 with
    | 0, _ => exact ⟨a, rfl, .inl rfl⟩
    | 1, _ => exact ⟨b, rfl, .inr (.inl rfl)⟩
    | 2, _ => exact ⟨c, rfl, .inr (.inr rfl)⟩
  refine tail_any (T := "tuple") ⟨_, (N _ hm).1, rfl⟩ slot_tuple_getitem.lookup ?_ hs
  exact getItem_tuple (j := j) (x := v) (items := [a, b, c].toArray) ⟨_, (N _ hm).1, rfl, n, rfl⟩ (by lia) (by lia) (hj ▸ seqIndex_of (by lia) (by simp; lia)) (by simpa using hv) (h v hq)
end
section
variable {prog : Program} {w : World} {A : Around} {s : Shared} {h₀ : Heap} {env : Env} {L : Addr} {m : Str → Option Value}
theorem comp_chrsM {elt : Expr} {x : Str} {scope : Scope} {cl : List (Str × Addr)} {S : List (Addr × Obj) → Prop} {P : Nat → Value → Prop} {Fin : List Value → List (Addr × Obj) → Prop} {news₀ : List (Addr × Obj)} (xs : List Int) (f : Int → Str)
    (hP : ∀ i v, P i v → ∃ y t, xs[i]? = some y ∧ v = .int y t) (hS : S news₀)
    (helt : ∀ (C : Addr) (oC : Obj) (m₂ : Str → Option Value) (y : Int) (t : Tok) (h : Heap) (tk : Nat) (news₁ : List (Addr × Obj)) (E' : Value → Shared → Prop) (Q' : Value → Shared → Prop), y ∈ xs → LCg.NsObj oC m₂ → m₂ x = some (.int y t) → Fr h₀ L h m → News h₀ L h ((C, oC) :: news₁) →
      (∀ (t' : Tok) (tk' : Nat), Q' (.str (f y) t') { s with heap := h, toks := tk' }) →
      wpAny (model prog w) A (eval elt (compEnvC scope cl C env)) Q' E' { s with heap := h, toks := tk })
    (fin : ∀ ps : List (Str × Tok), ps.map (·.1) = xs.map f → Fin (strValues ps) news₀) :
    ∀ (k i : Nat) (ps : List (Str × Tok)), i + k = xs.length → ps.map (·.1) = (xs.take i).map f → LCg.CompRest prog w A h₀ L m env elt x scope cl s S P Fin k i (strValues ps) news₀ := by
  intro k
  induction k with
  | zero =>
    intro i ps hk hI
    rw [show i = xs.length by lia, List.take_length] at hI
    exact LCg.CompRest.zero (fin ps hI)
  | succ k ih =>
    intro i ps hk hI
    refine LCg.CompRest.succ fun v I oI C oC D m₂ h tk E' hv hC hx F N off ne => ?_
    obtain ⟨y, t, hy, rfl⟩ := hP i v hv
    have hsub : ∀ p ∈ (C, oC) :: (I, oI) :: (D, LCg.lst (strValues ps)) :: news₀, p ∈ (I, oI) :: (C, oC) :: (D, LCg.lst (strValues ps)) :: news₀ := by
      intro p hp
      simp only [List.mem_cons] at hp ⊢
      rcases hp with h | h | h | h
      · exact .inr (.inl h)
      · exact .inl h
      · exact .inr (.inr (.inl h))
      · exact .inr (.inr (.inr h))
    refine helt C oC m₂ y t h tk ((I, oI) :: (D, LCg.lst (strValues ps)) :: news₀) E' _ (List.mem_of_getElem? hy) hC hx F (fun p hp => N p (hsub p hp)) fun t' tk' => ?_
    refine LCg.CompEnd.intro F N news₀ (fun p hp => hp) off hS ?_
    have := ih (i + 1) (ps ++ [(f y, t')]) (by lia) (by
      rw [List.take_add_one, hy]
      simp [hI])
    have e : strValues (ps ++ [(f y, t')]) = strValues ps ++ [.str (f y) t'] := by simp [strValues]
    rw [e] at this
    exact this
end
end Mine
-- text C2
set_option maxHeartbeats 4000000
namespace Mine
open PySem.Calls PySem.Spec
section
variable {prog : Program} {w : World} {A : Around} {E : Value → Shared → Prop} {s : Shared} {R : Result → Shared → Prop} {elt it1 it2 : Expr} {x1} {tp : Pos} {elts : List Expr} {c : Str} {pe : Pos} {scope : Scope} {pos : Pos} {it acc : Value} {env : Env}
theorem compTurn0 (elt target it1 it2 target2 : Expr) (scope : Scope) (pos : Pos) (it acc : Value) (env : Env) :
    compTurn (.ListComp elt [⟨target, it1, [], 0⟩, ⟨target2, it2, [], 0⟩] scope pos) 0 it acc env = (standAt it1.pos >>= fun _ => pyNext it >>= fun r => match r with
      | none => pure (.done .next)
      | some v => letOwnedTupleGo target it v >>= fun _ => assign target env v >>= fun _ =>
        (eval it2 env >>= fun x => standAt it2.pos >>= fun _ => foldedSetIterable it2 env x >>= fun x => holding [x] (pyIter x) >>= fun i =>
          runOwn (.compStart (.ListComp elt [⟨target, it1, [], 0⟩, ⟨target2, it2, [], 0⟩] scope pos) 1 i acc env) env >>= fun _ =>
          again (.compLoop (.ListComp elt [⟨target, it1, [], 0⟩, ⟨target2, it2, [], 0⟩] scope pos) 0 it acc env))) := by rfl
theorem compTurn1 (elt target it1 it2 target2 : Expr) (scope : Scope) (pos : Pos) (it acc : Value) (env : Env) :
    compTurn (.ListComp elt [⟨target, it1, [], 0⟩, ⟨target2, it2, [], 0⟩] scope pos) 1 it acc env = (standAt it2.pos >>= fun _ => pyNext it >>= fun r => match r with
      | none => pure (.done .next)
      | some v => letOwnedTupleGo target2 it v >>= fun _ => assign target2 env v >>= fun _ =>
        (eval elt env >>= fun x => call (.builtin "list.append") [acc, x] >>= fun _ => pure ()) >>= fun _ =>
          again (.compLoop (.ListComp elt [⟨target, it1, [], 0⟩, ⟨target2, it2, [], 0⟩] scope pos) 1 it acc env)) := by rfl
theorem loop0 (I : Nat → Shared → Prop)
    (turn : ∀ n s, I n s → wpAny (model prog w) A (pyNext it) (fun r s₁ => match r with
      | none => R (.ok .next) s₁
      | some v => wpAny (model prog w) A (letOwnedTupleGo (.Tuple elts x1 tp) it v) (fun _ s₁' => wpAny (model prog w) A (assign (.Tuple elts x1 tp) env v) (fun _ s₂ =>
          wpAny (model prog w) A (eval it2 env) (fun x s₃ => wpAny (model prog w) A (pyIter x) (fun i s₄ =>
            codeAny (model prog w) A (.compStart (.ListComp elt [⟨.Tuple elts x1 tp, it1, [], 0⟩, ⟨.Name c pe, it2, [], 0⟩] scope pos) 1 i acc env) (fun r s₅ => r = .ok .next ∧ ∃ m, m < n ∧ I m s₅) s₄)
            (notedBy (model prog w) A env fun e s' => R (.error e) s') s₃) (notedBy (model prog w) A env fun e s' => R (.error e) s') s₂)
          (notedBy (model prog w) A env fun e s' => R (.error e) s') s₁') (notedBy (model prog w) A env fun e s' => R (.error e) s') s₁) (notedBy (model prog w) A env fun e s' => R (.error e) s') s)
    (hs : ∀ x, foldedSetIterable it2 env x = pure x)
    (n : Nat) (h : I n s) : codeAny (model prog w) A (.compLoop (.ListComp elt [⟨.Tuple elts x1 tp, it1, [], 0⟩, ⟨.Name c pe, it2, [], 0⟩] scope pos) 0 it acc env) R s := by
  refine codeAny_loop rfl I (fun n s hI => ?_) n h
  show wpAny _ A ((compTurn (.ListComp elt [⟨.Tuple elts x1 tp, it1, [], 0⟩, ⟨.Name c pe, it2, [], 0⟩] scope pos) 0 it acc env).onRaise (fun x => do noteFrame x env; theTreesLotGoes x)) _ _ s
  refine wpAny_noted ?_
  rw [compTurn0]
  refine wpAny_bind (wpAny_standAt (wpAny_bind (wpAny_mono (turn n s hI) (fun r s₁ h₁ => ?_) fun _ _ h' => h')))
  cases r with
  | none => exact wpAny_pure h₁
  | some v =>
    refine wpAny_bind (wpAny_mono h₁ (fun _ s₁' h₁' => ?_) fun _ _ h' => h')
    refine wpAny_bind (wpAny_mono h₁' (fun _ s₂ h₂ => ?_) fun _ _ h' => h')
    refine wpAny_bind (wpAny_mono h₂ (fun x s₃ h₃ => ?_) fun _ _ h' => h')
    refine wpAny_bind (wpAny_standAt (wpAny_bind (wpAny_of_eq (hs x) (wpAny_bind (wpAny_holding (wpAny_mono h₃ (fun i s₄ h₄ => ?_) fun _ _ h' => h'))))))
    refine wpAny_bind (wpAny_runOwn ?_)
    rw [Around.mark_none]
    refine codeAny_mono h₄ fun r s₅ h₅ => ?_
    obtain ⟨rfl, h₅⟩ := h₅
    exact wpAny_pure ⟨rfl, h₅⟩
theorem loop1 (I : Nat → Shared → Prop)
    (turn : ∀ n s, I n s → wpAny (model prog w) A (pyNext it) (fun r s₁ => match r with
      | none => R (.ok .next) s₁
      | some v => wpAny (model prog w) A (assign (.Name c pe) env v) (fun _ s₂ =>
          wpAny (model prog w) A (eval elt env) (fun x s₄ =>
              wpAny (model prog w) A (call (.builtin "list.append") [acc, x]) (fun _ s₅ => ∃ m, m < n ∧ I m s₅) (notedBy (model prog w) A env fun e s' => R (.error e) s') s₄) (notedBy (model prog w) A env fun e s' => R (.error e) s') s₂)
          (notedBy (model prog w) A env fun e s' => R (.error e) s') s₁) (notedBy (model prog w) A env fun e s' => R (.error e) s') s)
    (n : Nat) (h : I n s) : codeAny (model prog w) A (.compLoop (.ListComp elt [⟨.Tuple elts x1 tp, it1, [], 0⟩, ⟨.Name c pe, it2, [], 0⟩] scope pos) 1 it acc env) R s := by
  refine codeAny_loop rfl I (fun n s hI => ?_) n h
  show wpAny _ A ((compTurn (.ListComp elt [⟨.Tuple elts x1 tp, it1, [], 0⟩, ⟨.Name c pe, it2, [], 0⟩] scope pos) 1 it acc env).onRaise (fun x => do noteFrame x env; theTreesLotGoes x)) _ _ s
  refine wpAny_noted ?_
  rw [compTurn1]
  refine wpAny_bind (wpAny_standAt (wpAny_bind (wpAny_mono (turn n s hI) (fun r s₁ h₁ => ?_) fun _ _ h' => h')))
  cases r with
  | none => exact wpAny_pure h₁
  | some v =>
    refine wpAny_bind (wpAny_pure ?_)
    refine wpAny_bind (wpAny_mono h₁ (fun _ s₂ h₂ => ?_) fun _ _ h' => h')
    exact wpAny_bind (wpAny_bind (wpAny_mono h₂ (fun x s₄ h₄ => wpAny_bind (wpAny_mono h₄ (fun _ s₅ h₅ => wpAny_pure (wpAny_pure ⟨rfl, h₅⟩)) fun _ _ h' => h')) fun _ _ h' => h'))
theorem start1
    (h0 : codeAny (model prog w) A (.compLoop (.ListComp elt [⟨.Tuple elts x1 tp, it1, [], 0⟩, ⟨.Name c pe, it2, [], 0⟩] scope pos) 1 it acc env) R s)
    (h : wpAny (model prog w) A (pyIter it) (fun it' s' => codeAny (model prog w) A (.compLoop (.ListComp elt [⟨.Tuple elts x1 tp, it1, [], 0⟩, ⟨.Name c pe, it2, [], 0⟩] scope pos) 1 it' acc env) R s')
      (notedBy (model prog w) A env fun x s' => R (.error x) s') s) :
    codeAny (model prog w) A (.compStart (.ListComp elt [⟨.Tuple elts x1 tp, it1, [], 0⟩, ⟨.Name c pe, it2, [], 0⟩] scope pos) 1 it acc env) R s := by
  refine codeAny_of_tree ?_
  show wpAny _ _ ((compStart (.ListComp elt [⟨.Tuple elts x1 tp, it1, [], 0⟩, ⟨.Name c pe, it2, [], 0⟩] scope pos) 1 it acc env).onRaise (fun x => do noteFrame x env; standAt theWindowsPlace)) _ _ s
  refine wpAny_notedAt ?_
  unfold compStart
  show wpAny _ _ (ask >>= _) _ _ s
  refine wpAny_bind (wpAny_askSetting (wpAny_ite ?_))
  split
  · first
      | exact wpAny_bind (wpAny_pure (wpAny_pure (And.intro rfl h0)))
      | exact wpAny_pure (And.intro rfl h0)
  · refine wpAny_bind (wpAny_rule ?_); show wpAny _ _ (standAt it2.pos >>= _) _ _ s; exact wpAny_bind (wpAny_standAt (wpAny_bind (wpAny_mono h (fun it' s' h' => wpAny_pure (And.intro rfl h')) fun _ _ x => x)))
theorem take_snoc {α : Type} {l : List α} {i : Nat} {x : α} (h : l[i]? = some x) : l.take (i + 1) = l.take i ++ [x] := by
  rw [List.take_add_one, h]; rfl
/-- the inner loop -/
theorem inner {cl : List (Str × Addr)} {I2 D C O : Addr} {os ys : List Value} {env₀ : Env} {pd : Pos} (hkind : scope.kind = .function) (hh : A.handled = none)
    (hc : scope.names.lookup c = some .local) (hcd : (c == ("__debug__" : Str)) = false) {m : Str → Option Value} {h₀ : Heap}
    (hit : s.heap.IsListIter I2 O 0) (hO : h₀.IsList O os.toArray) (hD : s.heap.get? D = some (LCg.lst ys)) (hn : s.heap.Ns C m) (hkeep : ∀ b o, h₀.get? b = some o → s.heap.get? b = some o)
    (hI₀ : h₀.get? I2 = none) (hD₀ : h₀.get? D = none) (hC₀ : h₀.get? C = none) (hID : I2 ≠ D) (hIC : I2 ≠ C) (hDC : D ≠ C) (hsz : (ys ++ os).length ≤ sizeLine)
    (ret : ∀ h' tk m', (∀ b o, b ≠ I2 → b ≠ D → b ≠ C → s.heap.get? b = some o → h'.get? b = some o) → h'.get? D = some (LCg.lst (ys ++ os)) → h'.Ns C m' → R (.ok .next) { s with heap := h', toks := tk }) :
    codeAny (model prog w) A (.compStart (.ListComp (.Name c pd) [⟨.Tuple elts x1 tp, it1, [], 0⟩, ⟨.Name c pe, it2, [], 0⟩] scope pos) 1 (.ref I2) (.ref D) (compEnvC scope cl C env₀)) R s := by
  have main : codeAny (model prog w) A (.compLoop (.ListComp (.Name c pd) [⟨.Tuple elts x1 tp, it1, [], 0⟩, ⟨.Name c pe, it2, [], 0⟩] scope pos) 1 (.ref I2) (.ref D) (compEnvC scope cl C env₀)) R s := by
    refine loop1 (fun k s' => ∃ h' tk m' j, s' = { s with heap := h', toks := tk } ∧ (∀ b o, b ≠ I2 → b ≠ D → b ≠ C → s.heap.get? b = some o → h'.get? b = some o) ∧ h'.IsListIter I2 O j ∧ h'.get? D = some (LCg.lst (ys ++ os.take j)) ∧ h'.Ns C m' ∧ j ≤ os.length ∧ k = os.length + 1 - j) ?_ (os.length + 1)
      ⟨s.heap, s.toks, m, 0, rfl, fun _ _ _ _ _ e => e, hit, by rw [List.take_zero, List.append_nil]; exact hD, hn, Nat.zero_le _, rfl⟩
    rintro k s' ⟨h', tk, m', j, rfl, hk', hit', hD', hn', hj, rfl⟩
    have hO' : h'.IsList O os.toArray := hO.at fun o e => hk' O o (fun q => by rw [q, hI₀] at e; cases e) (fun q => by rw [q, hD₀] at e; cases e) (fun q => by rw [q, hC₀] at e; cases e) (hkeep _ _ e)
    cases hv : os[j]? with
    | none =>
      have hj' : j = os.length := Nat.le_antisymm hj (by simpa using hv)
      subst hj'
      rw [List.take_length] at hD'
      refine wpAny_pyNext_list_end hh hit' hO' (by simpa using hv) fun h₁ he₁ => ?_
      exact ret h₁ _ m' (fun b o h1 h2 h3 e => he₁ b o h1 (hk' b o h1 h2 h3 e)) (he₁ _ _ (Ne.symm hID) hD') (hn'.at' fun o e => he₁ _ o (Ne.symm hIC) e)
    | some v =>
      have hlt : j < os.length := (List.getElem?_eq_some_iff.mp hv).1
      refine wpAny_pyNext_list_item hit' hO' (x := v) (by simpa using hv) fun h₁ hit₁ hs₁ => ?_
      refine wpAny_assign_Name (wpAny_storeName_local (lookup_relabel_local hc) (hn'.sameBut hs₁ (Ne.symm hIC)) (fun h₂ hn₂ hs₂ => ?_) (by simp [compEnvC, relabel, hkind]))
      refine wpAny_Name (wpAny_loadName_local (v := v) hkind (lookup_relabel_local hc) hn₂ (by simp) ?_) hcd
      have hD₂ : h₂.get? D = some (LCg.lst (ys ++ os.take j)) := hs₂.extBut _ _ hDC (hs₁.extBut _ _ (Ne.symm hID) hD')
      refine append_at (hsz := by rw [List.length_append] at hsz; rw [List.size_toArray, List.length_append, List.length_take]; lia) hD₂ fun h₃ hs₃ hD₃ => ?_
      refine ⟨os.length + 1 - (j + 1), by lia, h₃, _, _, j + 1, rfl, fun b o h1 h2 h3 e => hs₃.extBut _ _ h2 (hs₂.extBut _ _ h3 (hs₁.extBut _ _ h1 (hk' b o h1 h2 h3 e))), (hit₁.extBut hs₂.extBut hIC).extBut hs₃.extBut hID, ?_, hn₂.sameBut hs₃ (Ne.symm hDC), hlt, rfl⟩
      rw [hD₃, take_snoc hv, ← List.append_assoc]
      exact congrArg some (LCg.lst_snoc _ _)
  exact start1 main (wpAny_pyIter_listiter hit main)
/-- a comprehension of two clauses: pairs, then the list that each pair holds -/
theorem comp_nest {a b : Str} {pa pb : Pos} {kk : Nat} {pd p2 : Pos} {l : Addr} {vs : List Value} {oss : List (List Value)} {Q : Value → Shared → Prop}
    (hh : A.handled = none)
    (hclos : closureFor scope env = pure []) (hcell : ∀ y ∈ scope.names, y.2 ≠ .cell) (hkind : scope.kind = .function)
    (hnames : ∀ y ∈ scope.names, y.2 = .local → scope.names.lookup y.1 = some .local) (ha : scope.names.lookup a = some .local) (hb : scope.names.lookup b = some .local) (hc : scope.names.lookup c = some .local)
    (hbd : (b == ("__debug__" : Str)) = false) (hcd : (c == ("__debug__" : Str)) = false)
    (hl : s.heap.IsList l vs.toArray) (hv : ∀ (i : Nat) (v : Value), vs[i]? = some v → ∃ (T : Addr) (va : Value) (O : Addr) (os : List Value), oss[i]? = some os ∧ v = Value.ref T ∧ IsTup s.heap T #[va, Value.ref O] ∧ s.heap.IsList O (List.toArray os)) (hlen : oss.length = vs.length) (hsz : oss.flatten.length ≤ sizeLine)
    (hi : ∀ Q' : Value → Shared → Prop, Q' (.ref l) s → wpAny (model prog w) A (eval it1 env) Q' E s)
    (ret : ∀ D h' tk', (∀ x o, s.heap.get? x = some o → h'.get? x = some o) → h'.get? D = some (LCg.lst oss.flatten) → s.heap.get? D = none → Q (.ref D) { s with heap := h', toks := tk' })
    (hs : ∀ x, foldedSetIterable it1 env x = pure x) :
    wpAny (model prog w) A (eval (.ListComp (.Name c pd) [⟨.Tuple [.Name a pa, .Name b pb] kk tp, it1, [], 0⟩, ⟨.Name c pe, .Name b p2, [], 0⟩] scope pos) env) Q E s := by
  rw [eval_ListComp]
  refine wpAny_comprehension_free (use := none) rfl hs hclos hkind hnames (hi _ ?_)
  have hlt : l < s.heap.objs.size := by obtain ⟨_, e, _⟩ := hl; exact Heap.lt_size e
  refine wpAny_pyIter_list hl ?_
  refine wpAny_newObj_type (wpAny_newFunctionEnv hcell (by intro y hy; simp at hy) (fun h₁ hns₁ hsb₁ => ?_) hkind)
  dsimp only at hns₁ hsb₁ ⊢
  generalize hH1 : s.heap.push { cls := .type "list_iterator", data := .fields #[.ref l, .int 0 0] } = H1 at hns₁ hsb₁ ⊢
  generalize hH2 : H1.push { cls := .type "list", dict := none, data := .seq ([] : List Value).toArray } = H2 at hns₁ hsb₁ ⊢
  have e1 : H1.objs.size = s.heap.objs.size + 1 := by rw [← hH1, Heap.size_push]
  have e2 : H2.objs.size = s.heap.objs.size + 2 := by rw [← hH2, Heap.size_push, e1]
  have fresh : ∀ a, s.heap.objs.size ≤ a → s.heap.get? a = none := fun a ha => by
    cases e : s.heap.get? a with
    | none => rfl
    | some o' => exact absurd (Heap.lt_size e) (Nat.not_lt.mpr ha)
  have hID : s.heap.objs.size ≠ H1.objs.size := by rw [e1]; exact Nat.ne_of_lt (Nat.lt_succ_self _)
  have hIC : s.heap.objs.size ≠ H2.objs.size := by rw [e2]; exact Nat.ne_of_lt (Nat.lt_add_of_pos_right (by decide))
  have hDC : H1.objs.size ≠ H2.objs.size := by rw [e1, e2]; exact Nat.ne_of_lt (Nat.lt_succ_self _)
  have hI₀ := fresh _ (Nat.le_refl s.heap.objs.size)
  have hD₀ := fresh H1.objs.size (by rw [e1]; exact Nat.le_succ _)
  have hC₀ := fresh H2.objs.size (by rw [e2]; exact Nat.le_add_right _ _)
  have up₁ : ∀ b o, s.heap.get? b = some o → h₁.get? b = some o := fun b o e => hsb₁.extBut b o (fun q => by rw [q, hC₀] at e; cases e) (Heap.get?_push_of_some _ (hH2 ▸ Heap.get?_push_of_some _ (hH1 ▸ Heap.get?_push_of_some _ e)))
  have hit₁ : h₁.IsListIter s.heap.objs.size l 0 := ⟨_, hsb₁.extBut _ _ hIC (Heap.get?_push_of_some _ (hH2 ▸ Heap.get?_push_of_some _ (hH1 ▸ Heap.get?_push_size _ rfl))), rfl, rfl⟩
  have hD₁ : h₁.get? H1.objs.size = some (LCg.lst []) := hsb₁.extBut _ _ hDC (Heap.get?_push_of_some _ (hH2 ▸ Heap.get?_push_size _ rfl))
  have main : codeAny (model prog w) A (.compLoop (.ListComp (.Name c pd) [⟨.Tuple [.Name a pa, .Name b pb] kk tp, it1, [], 0⟩, ⟨.Name c pe, .Name b p2, [], 0⟩] scope pos) 0 (.ref s.heap.objs.size) (.ref H1.objs.size) (compEnvC scope [] H2.objs.size env))
      (compPost (model prog w) A E none Q (.ref H1.objs.size) H2.objs.size) { s with heap := h₁, toks := s.toks + ([] : List (Str × Value)).length } := by
    refine loop0 (fun k s' => ∃ h' tk m' i, s' = { s with heap := h', toks := tk } ∧ (∀ b o, s.heap.get? b = some o → h'.get? b = some o) ∧ h'.IsListIter s.heap.objs.size l i ∧ h'.get? H1.objs.size = some (LCg.lst (oss.take i).flatten) ∧ h'.Ns H2.objs.size m' ∧ i ≤ vs.length ∧ k = vs.length + 1 - i)
      ?_ (fun _ => rfl) (vs.length + 1) ⟨h₁, _, _, 0, rfl, up₁, hit₁, hD₁, hns₁, Nat.zero_le _, rfl⟩
    rintro k s' ⟨h', tk, m', i, rfl, hk', hit', hD', hn', hil, rfl⟩
    have hl' : h'.IsList l vs.toArray := hl.at fun o e => hk' l o e
    cases hvi : vs[i]? with
    | none =>
      have hi' : i = vs.length := Nat.le_antisymm hil (by simpa using hvi)
      subst hi'
      rw [← hlen, List.take_length] at hD'
      refine wpAny_pyNext_list_end hh hit' hl' (by simpa using hvi) fun h₂ he₂ => ?_
      refine ⟨m', hn'.at' fun o e => he₂ _ o (Ne.symm hIC) e, fun h₃ hs₃ => ?_⟩
      exact ret _ h₃ _ (fun x o e => hs₃.extBut _ _ (fun q => by rw [q, hC₀] at e; cases e) (he₂ _ _ (fun q => by rw [q, hI₀] at e; cases e) (hk' _ _ e))) (hs₃.extBut _ _ hDC (he₂ _ _ (Ne.symm hID) hD')) hD₀
    | some v =>
      have hlti : i < vs.length := (List.getElem?_eq_some_iff.mp hvi).1
      obtain ⟨T, va, O, os, ho, rfl, hT, hO⟩ := hv i v hvi
      refine wpAny_pyNext_list_item hit' hl' (x := .ref T) (by simpa using hvi) fun h₂ hit₂ hs₂ => ?_
      refine wpAny_letOwnedTupleGo_listiter hit₂ ?_
      have k₂ : ∀ b o, s.heap.get? b = some o → h₂.get? b = some o := fun b o e => hs₂.extBut _ _ (fun q => by rw [q, hI₀] at e; cases e) (hk' _ _ e)
      have hn₂ := hn'.sameBut hs₂ (Ne.symm hIC)
      refine assign_Tuple_tuple hh (hT.keeps k₂) rfl rfl fun h₃ he₃ => ?_
      have he₃' : ∀ b o, h₂.get? b = some o → h₃.get? b = some o := fun b o e => he₃ b o (Nat.ne_of_lt (Heap.lt_size e)) e
      refine assignInOrder_cons (wpAny_assign_Name (wpAny_storeName_local (lookup_relabel_local ha) (hn₂.at' fun o e => he₃' _ o e) (fun h₄ hn₄ hs₄ => ?_) (by simp [compEnvC, relabel, hkind])))
      refine assignInOrder_cons (wpAny_assign_Name (wpAny_storeName_local (lookup_relabel_local hb) hn₄ (fun h₅ hn₅ hs₅ => ?_) (by simp [compEnvC, relabel, hkind])))
      refine assignInOrder_nil ?_
      have up₅ : ∀ x o, x ≠ H2.objs.size → h₂.get? x = some o → h₅.get? x = some o := fun x o hx e => hs₅.extBut _ _ hx (hs₄.extBut _ _ hx (he₃' _ _ e))
      refine wpAny_Name (wpAny_loadName_local (v := .ref O) hkind (lookup_relabel_local hb) hn₅ (by simp) ?_) hbd
      have k₅ : ∀ x o, s.heap.get? x = some o → h₅.get? x = some o := fun x o e => up₅ _ _ (fun q => by rw [q, hC₀] at e; cases e) (k₂ _ _ e)
      refine wpAny_pyIter_list (hO.at fun o e => k₅ _ o e) ?_
      have hIlt : s.heap.objs.size < h₅.objs.size := by obtain ⟨o, e, _⟩ := hit₂; exact Heap.lt_size (up₅ _ _ hIC e)
      have hD₅ : h₅.get? H1.objs.size = some (LCg.lst (oss.take i).flatten) := up₅ _ _ hDC (hs₂.extBut _ _ (Ne.symm hID) hD')
      have hDlt : H1.objs.size < h₅.objs.size := Heap.lt_size hD₅
      have hClt : H2.objs.size < h₅.objs.size := hn₅.lt
      have hfl : (oss.take (i + 1)).flatten = (oss.take i).flatten ++ os := by rw [take_snoc ho, List.flatten_append]; simp
      refine inner (O := O) (os := os) (h₀ := s.heap) (ys := (oss.take i).flatten) hkind hh hc hcd ⟨_, Heap.get?_push_size _ rfl, rfl, rfl⟩ hO (Heap.get?_push_of_some _ hD₅) (hn₅.at' fun o e => Heap.get?_push_of_some _ e) (fun x o e => Heap.get?_push_of_some _ (k₅ _ _ e)) (fresh _ (Nat.le_of_lt hIlt)) hD₀ hC₀ (Ne.symm (Nat.ne_of_lt hDlt)) (Ne.symm (Nat.ne_of_lt hClt)) hDC ?_ ?_
      · rw [← hfl]
        refine Nat.le_trans ?_ hsz
        conv => rhs; rw [← List.take_append_drop (i + 1) oss, List.flatten_append, List.length_append]
        exact Nat.le_add_right _ _
      · intro h₆ tk₆ m₆ hk₆ hD₆ hn₆
        refine ⟨rfl, vs.length + 1 - (i + 1), by lia, h₆, _, m₆, i + 1, rfl, fun x o e => hk₆ _ _ (fun q => by rw [q, fresh _ (Nat.le_of_lt hIlt)] at e; cases e) (fun q => by rw [q, hD₀] at e; cases e) (fun q => by rw [q, hC₀] at e; cases e) (Heap.get?_push_of_some _ (k₅ _ _ e)), ?_, by rw [hfl]; exact hD₆, hn₆, hlti, rfl⟩
        exact (hit₂.at fun o e => up₅ _ o hIC e).at fun o e => hk₆ _ o (Nat.ne_of_lt hIlt) hID hIC (Heap.get?_push_of_some _ e)
  exact codeAny_compStart_list main (wpAny_pyIter_listiter hit₁ main)
end
end Mine
-- text O8
namespace Mine
open PySem.Calls PySem.Spec
section
variable {prog : Program} {w : World} {A : Around} {E : Value → Shared → Prop} {s : Shared} {h₀ : Heap} {env : Env}
theorem flat_ints {P : Option Nat → List Value → Prop} (hP : ∀ t os, P t os → IntsAre os ((oc t).map fun (c : Nat) => (c : Int))) : ∀ (vs : List Value) (L : List (Option Nat)) (X : Value → List Value → Prop), vs.length = L.length →
    (∀ (i : Nat) (v : Value), vs[i]? = some v → ∃ t os, L[i]? = some t ∧ P t os ∧ X v os) → ∃ oss : List (List Value), oss.length = vs.length ∧ (∀ (i : Nat) (v : Value), vs[i]? = some v → ∃ os, oss[i]? = some os ∧ X v os) ∧ IntsAre oss.flatten ((octT L).map fun (c : Nat) => (c : Int))
  | [], [], _, _, _ => ⟨[], rfl, fun i v h => by simp at h, .nil⟩
  | [], _ :: _, _, h, _ => by cases h
  | _ :: _, [], _, h, _ => by cases h
  | v :: vs, t :: L, X, h, hv => by
    obtain ⟨oss, h1, h2, h3⟩ := flat_ints hP vs L X (by simpa using h) fun i v' hi => by simpa using hv (i + 1) v' (by simpa using hi)
    obtain ⟨t', os, e, hp, hx⟩ := hv 0 v rfl
    cases e
    refine ⟨os :: oss, by simp [h1], fun i v' hi => ?_, ?_⟩
    · cases i with
      | zero => cases hi; exact ⟨os, rfl, hx⟩
      | succ i => simpa using h2 i v' (by simpa using hi)
    · rw [octT_cons, List.map_append, List.flatten_cons]
      exact IntsAre.append (hP _ _ hp) h3
theorem comp2 {a b c : Str} {pa pb pc pd pe tp pos : Pos} {kk : Nat} {it : Expr} {scope : Scope} {m : Str → Option Value} {news : List (Addr × Obj)} {l : Addr} {e : List Nat} {L : List (Option Nat)} {Q : Value → Shared → Prop}
    (F : Fr h₀ env.locals s.heap m) (N : News h₀ env.locals s.heap news) (hT : ToksAt s.heap l e L) (hh : A.handled = none) (hL : (octT L).length ≤ 1000)
    (hclos : closureFor scope env = pure []) (hcell : ∀ y ∈ scope.names, y.2 ≠ .cell) (hkind : scope.kind = .function)
    (hnames : ∀ y ∈ scope.names, y.2 = .local → scope.names.lookup y.1 = some .local) (ha : scope.names.lookup a = some .local) (hb : scope.names.lookup b = some .local) (hc : scope.names.lookup c = some .local)
    (hbd : (b == ("__debug__" : Str)) = false) (hcd : (c == ("__debug__" : Str)) = false)
    (hi : ∀ Q' : Value → Shared → Prop, Q' (.ref l) s → wpAny (model prog w) A (eval it env) Q' E s)
    (ret : ∀ D ws n h' tk', Fr h₀ env.locals h' m → News h₀ env.locals h' ((D, listOf (List.toArray ws) n) :: news) → (∀ p ∈ news, p.1 ≠ D) → IntsAre ws ((octT L).map fun (c : Nat) => (c : Int)) → Q (.ref D) { s with heap := h', toks := tk' })
    (hs : ∀ x, foldedSetIterable it env x = pure x) :
    wpAny (model prog w) A (eval (.ListComp (.Name c pc) [⟨.Tuple [.Name a pa, .Name b pb] kk tp, it, [], 0⟩, ⟨.Name c pd, .Name b pe, [], 0⟩] scope pos) env) Q E s := by
  obtain ⟨vs, hl, hvl, hvs⟩ := hT
  obtain ⟨oss, h1, h2, h3⟩ := flat_ints (P := fun t os => IntsAre os ((oc t).map fun (c : Nat) => (c : Int))) (fun _ _ h => h) vs L
    (fun v os => ∃ (T : Addr) (va : Value) (O : Addr), v = Value.ref T ∧ IsTup s.heap T #[va, Value.ref O] ∧ s.heap.IsList O (List.toArray os)) hvl fun i v hv => by
      obtain ⟨T, sg, ts, O, os, t, e1, e2, e3, _, e4, e5⟩ := hvs i v hv
      exact ⟨t, os, e1, e5, T, _, O, e2, e3, e4⟩
  refine comp_nest (oss := oss) hh hclos hcell hkind hnames ha hb hc hbd hcd hl (fun i v hv => ?_) h1 ?_ hi (fun D h' tk' hk hD hn => ?_) hs
  · obtain ⟨os, e1, T, va, O, e2, e3, e4⟩ := h2 i v hv
    exact ⟨T, va, O, os, e1, e2, e3, e4⟩
  · rw [h3.length, List.length_map, sizeLine_eq]; lia
  · have hDL : D ≠ env.locals := fun q => by
      obtain ⟨o', _, _, e, _⟩ := F.ns
      rw [← q, hn] at e; cases e
    have hD₀ : h₀.get? D = none := by
      cases e : h₀.get? D with
      | none => rfl
      | some o' => rw [F.keep _ _ e] at hn; cases hn
    refine ret D oss.flatten oss.flatten.length h' tk' (F.keeps hk) (fun p hp => ?_) (fun p hp q => ?_) h3
    · rcases List.mem_cons.mp hp with rfl | hp
      · exact ⟨hD, hDL, hD₀⟩
      · exact ⟨hk _ _ (N p hp).1, (N p hp).2⟩
    · have := (N p hp).1; rw [q, hn] at this; cases this
end
theorem ToksIn.at {h₀ h : Heap} {L₀ l : Addr} {ws : List Value} {tups news : List (Addr × Obj)} {e : List Nat} {L : List (Option Nat)} {n : Nat} (hI : ToksIn ws tups e L) (N : News h₀ L₀ h news) (hm : (l, listOf (List.toArray ws) n) ∈ news) (hs : ∀ p ∈ tups, p ∈ news) : ToksAt h l e L :=
  ⟨ws, ⟨_, (N _ hm).1, rfl, n, rfl⟩, hI.1, fun i v hv => by
    obtain ⟨T, n, s, ts, O, os, n', t, h1, rfl, h3, h4, h5, h6⟩ := hI.2 i v hv
    exact ⟨T, s, ts, O, os, t, h1, rfl, ⟨_, (N _ (hs _ h3)).1, rfl, _, rfl⟩, h4, ⟨_, (N _ (hs _ h5)).1, rfl, _, rfl⟩, h6⟩⟩
theorem octN_ge (ns : List Int) : 8 ≤ (octN (ns ++ [98300, 0, 1, 35, 2])).length := by
  unfold octN
  rw [List.flatMap_append, List.length_map, List.length_append, show (List.flatMap o2 [98300, 0, 1, 35, 2]).length = 8 by decide +kernel]
  exact Nat.le_add_left _ _
theorem flat_ge (e : List Nat) : ∀ L : List (Option Nat), (octT L).length ≤ (flatT e L).length
  | [] => Nat.le_refl _
  | t :: L => by
    rw [octT_cons, flatT_cons, List.length_append, List.length_append]
    have := flat_ge e L
    have h : (oc t).length ≤ (sg e t).length := by
      cases t with
      | none => exact Nat.zero_le _
      | some c =>
        show 1 ≤ (encC c).length
        unfold encC
        split <;> simp
    lia
end Mine
-- text L6
namespace Mine
open PySem.Calls PySem.Spec
set_option maxRecDepth 100000
set_option maxHeartbeats 40000000
theorem hdAsEq (P : Params) : hdAs = (hdK P).map (·.1) := by kernel_rfl
theorem hdSaid : PySem.Challenge.rw_ny0161_02.wellSaid = true := by
  rw [PySem.W.Fast.te9446332074065402090]
  kernel_rfl
section
local macro_rules | `(tactic| k_qdec) => `(tactic| first | (rw [PySem.W.Fast.te17448422675489707002]; kernel_rfl) | (rw [PySem.W.Fast.te2458874890965802552]; kernel_rfl))
local macro_rules | `(tactic| walk_at $k:str) => do
  if ["exec For Name BinOp cons nil", "call ref", "eval ListComp", "pyIter ref", "Turn", "exec Assign cons ListComp", "CompSrc", "call builtin:str.join", "TokThen", "CutAt", "compareOp NotEq ref ref", "compareOp NotEq ref", "compareOp NotEq"].contains k.getString then `(tactic| refine Stop.out ?_) else Lean.Macro.throwUnsupported
local macro_rules | `(tactic| walk_at "subscriptTail") => `(tactic| ((with_reducible show wpAny _ _ (subscriptTail _ _ (Value.ref _) (Value.int _ _)) _ _ _); refine Stop.out ?_))
theorem law2 : PySem.Challenge.rw_ny0161_02.Holds := by
  refine holds_law hdSaid fun said => ?_
  refine holds_open (q := hdView) (loose := hdLoose) (Xt := hdX) (XP := XL hdView hdLv) (Yf := Hook.obs (kHook hdK hdAs hdAsEq)) (Ya := Hook.val (kHook hdK hdAs hdAsEq)) (YP := Hook.says (kHook hdK hdAs hdAsEq)) (N := 35376) hdLeft (Hook.of (kHook hdK hdAs hdAsEq)) (Hook.keeps (kHook hdK hdAs hdAsEq)) (fun s e => xl_of s (Bool.and_eq_true_iff.mp e).1) XL.keeps (by rfl) (by rfl) (by rfl) (fun s e => recFacts_of (Bool.and_eq_true_iff.mp e).2) (by rfl) said (by decide +kernel) ⟨rfl, rfl, rfl, rfl, rfl, by decide +kernel⟩ ?hw ?hc
  case hw => w_witness2
  clear said
  k_go0
  (all_goals try k_fold)
  rename List Int => ns
  rename Shared => s1
  refine execs_tk (n := 1) (Nat.le_add_left _ _) ?_
  k_steps
  unfold Stop TokThen
  intro htk1
  dsimp only at htk1 ⊢
  rename_i tt0 h00 F00 N00
  refine execs_tk (n := 1) htk1 ?_
  k_steps
  unfold Stop
  rename_i Da wa ha hIa hCa hLa l1a lb hb l1b D1 ws1 h1 F1 N1 hI1 l11
  have hnl : (List.take 8 ns ++ [98300, 0, 1, 35, 2]).length ≤ 13 := by simp only [List.length_append, List.length_take, List.length_cons, List.length_nil]; omega
  generalize hns : List.take 8 ns = ms at hI1 hnl
  refine (octets_cl D1 ws1 _ hI1 (by omega)).use (by with_reducible assumption) F1 (by with_reducible assumption) N1 (by with_reducible assumption) rfl ⟨_, (N1 _ List.mem_cons_self).1, rfl, _, rfl⟩ (by decide) (by decide) ?_
  rintro v2 nw2 h2 tk2 ⟨D2, n2, ws2, rfl, rfl, hI2⟩ F2 N2 hn2 _
  rw [← octN_cast] at hI2
  have hO := octN_ok (ms ++ [98300, 0, 1, 35, 2])
  have hOl := octN_len (ms ++ [98300, 0, 1, 35, 2])
  have hOe := octN_end ms
  have hO8 := octN_ge ms
  generalize octN (ms ++ [98300, 0, 1, 35, 2]) = O at hI2 hO hOl hOe hO8
  have N3 : News s1.heap s1.heap.objs.size h2 [(D2, listOf ws2.toArray n2)] := fun p hp => N2 p (List.mem_append.mpr (.inl hp))
  clear F1 N1 N2 hn2 hI1 hIa hCa hLa l1a l1b l11
  dsimp only
  k_steps
  unfold Stop TokThen
  intro htk2
  dsimp only at htk2 ⊢
  rename_i h3 F3 N4
  have hn63 : ns.length ≤ 63 := by omega
  obtain ⟨l0, vs0, tt, hLs, hIs, F4⟩ : ∃ (l0 : Addr) (vs0 : List Value) (tt : Tok), s1.heap.IsList l0 vs0.toArray ∧ IntsAre vs0 ns ∧ Fr s1.heap s1.heap.objs.size h3 (fun y => if y = Str.ofString "octets" then some (.ref D2) else if y = Str.ofString "total" then some (.int ns.sum tt) else if y = Str.ofString "script" then some (.ref l0) else none) := by
    refine ⟨_, _, tt0, by with_reducible assumption, by with_reducible assumption, ?_⟩
    have e : ∀ (v : Value) (y : Str), List.lookup y [(Str.ofString "script", v)].reverse = if y = Str.ofString "script" then some v else none := by
      intro v y
      by_cases h : y = Str.ofString "script"
      · subst h; rw [if_pos rfl]; rfl
      · rw [if_neg h]
        show List.lookup y [(Str.ofString "script", v)] = none
        simp [List.lookup, beq_eq_false_iff_ne.mpr h]
    simp only [e] at F3
    exact F3
  clear F3
  refine execs_cut (n := 1) (fun s' => ∃ (h' : Heap) (tk' : Nat) (ee : Str) (u : Tok), s' = { s1 with heap := h', toks := tk' } ∧ Fr s1.heap s1.heap.objs.size h' (fun y => if y = Str.ofString "ends" then some (.str ee u) else if y = Str.ofString "octets" then some (.ref D2) else if y = Str.ofString "total" then some (.int ns.sum tt) else if y = Str.ofString "script" then some (.ref l0) else none) ∧ News s1.heap s1.heap.objs.size h' [(D2, listOf ws2.toArray n2)] ∧ EndOk (ch ee)) htk2 ?ends ?rest1
  case ends =>
    have h3 := @fm ns.sum 3 (by decide)
    k_steps
    unfold Stop
    rename_i D6 h6 F6 N6 l6
    refine subTup3 N6 (List.Mem.head _) h3.1 h3.2 (fun v hv => ?_) (by with_unfolding_all rfl)
    have hv' : ∃ (ee : Str) (u : Tok), v = .str ee u ∧ EndOk (ch ee) := by
      rcases hv with rfl | rfl | rfl
      · exact ⟨_, _, rfl, .inl (by decide +kernel)⟩
      · exact ⟨_, _, rfl, .inr (.inl (by decide +kernel))⟩
      · exact ⟨_, _, rfl, .inr (.inr (by decide +kernel))⟩
    obtain ⟨ee, u, rfl, hE⟩ := hv'
    k_steps
    unfold Stop
    rename_i h7 F7 N7
    exact ⟨rfl, _, _, ee, u, rfl, F7, fun p hp => N7 p (List.Mem.tail _ hp), hE⟩
  case rest1 =>
    rintro s' htk3 ⟨h5, tk5, ee, u, rfl, F5, N5, hE⟩
    dsimp only at htk3
    clear F4 N4
    have heel : ee.length ≤ 2 ∧ ee.length ≠ 0 := by
      rw [← ch_len]
      rcases hE with h | h | h <;> rw [h] <;> simp
    have h20 := @fm ns.sum 20 (by decide)
    refine execs_cut (n := 1) (fun s' => ∃ (h' : Heap) (tk' : Nat) (z : Str) (tz : Tok), s' = { s1 with heap := h', toks := tk' } ∧ Fr s1.heap s1.heap.objs.size h' (fun y => if y = Str.ofString "letter" then some (.str z tz) else if y = Str.ofString "ends" then some (.str ee u) else if y = Str.ofString "octets" then some (.ref D2) else if y = Str.ofString "total" then some (.int ns.sum tt) else if y = Str.ofString "script" then some (.ref l0) else none) ∧ News s1.heap s1.heap.objs.size h' [(D2, listOf ws2.toArray n2)] ∧ ch z = encF (4 + ns.sum.fmod 20 - 1).toNat (ch ee) O) htk3 ?letter ?rest2
    case letter =>
      k_steps
      unfold Stop
      refine LCg.ListComp_U (F₀ := by k_asm) (by rfl) (by decide) (by rfl) (by decide) (by rfl) ?_
      k_steps
      unfold Stop
      have hOl2 : O.length ≤ 39 := by omega
      refine LCg.CompSrc.ledger (by rfl) F5 N5 List.mem_cons_self (by simp only [List.size_toArray, hI2.length, List.length_map, PySem.sizeLine_eq]; omega) ?_
      intro g2
      refine comp_chrsM (O.map fun (c : Nat) => (c : Int)) (fun y => ⟨#[y.toNat]⟩) (fun i v hv => ?hP) (Or.inr ⟨_, List.mem_cons_self, rfl, _, rfl⟩) (fun C oC m₂ y t h tk news₁ E' Q' hy hoC hmx F3 N3 hret => ?helt) (fun ps hps => ?fin) _ 0 [] (by rw [Nat.zero_add, List.size_toArray, hI2.length]) rfl
      case hP =>
        obtain ⟨k, t, e, hk⟩ := IntsAre.at hI2 i v (by simpa using hv)
        exact ⟨k, t, hk, e⟩
      case helt =>
        obtain ⟨c, hc, rfl⟩ := List.mem_map.mp hy
        have hc2 := (hO c hc).1
        try k_fold
        k_steps
        exact hret _ _
      case fin =>
        intro D3 h7 tk7 F7 N7 off7
        clear F5 N5 off7
        have hp1 : chp ps = O.map (fun c => [c]) := by
          have := congrArg (List.map ch) hps
          rw [chp_map] at this
          rw [this, List.map_map, List.map_map]
          rfl
        have hpl : ps.length ≤ 39 := by
          have := congrArg List.length hp1
          rw [List.length_map] at this
          simp only [chp, List.length_map] at this
          omega
        k_steps
        unfold Stop
        refine call_join_N (ps := ps) N7 List.mem_cons_self (by omega) (fun q hq => ?_) (by decide) (fun z t' k hz => ?_)
        · rw [hp1] at hq
          obtain ⟨_, _, rfl⟩ := List.mem_map.mp hq
          simp
        rw [hp1, joinL_one2] at hz
        have hzl : z.length ≠ 0 ∧ z.length ≤ 39 := by
          rw [← ch_len, hz]
          refine ⟨?_, hOl2⟩
          rw [hOe]; simp
        have N8 : News s1.heap s1.heap.objs.size h7 [(D2, listOf ws2.toArray n2)] := fun p hp => N7 p (List.mem_cons_of_mem _ hp)
        k_steps
        unfold Stop
        refine (encode_cl z ee _ _ _ _).use (by with_reducible assumption) F7 (by with_reducible assumption) N8 (by with_reducible assumption) rfl ⟨hzl.1, by omega, by omega, by omega, by omega, by rw [hz]; exact fun c hc => (hO c hc).1⟩ (by decide) (by decide) ?_
        rintro v9 nw9 h9 tk9 ⟨rfl, z9, t9, rfl, hz9⟩ F9 N9 _ _
        rw [List.nil_append] at N9
        clear F7 N7 N8
        dsimp only
        k_steps
        unfold Stop
        rename_i g9 F10 N10
        exact ⟨rfl, _, _, z9, t9, rfl, F10, N10, by rw [hz9, hz]⟩
    case rest2 =>
      rintro s' htk4 ⟨h6, tk6, z, tz, rfl, F6, N6, hz⟩
      dsimp only at htk4
      clear F5 N5
      obtain ⟨L, hfl, hoct, hTok, hAdj⟩ := letter_tok (k := (4 + ns.sum.fmod 20 - 1).toNat) (e := ch ee) (T' := octN (ms ++ [98300, 0, 1, 35])) (c := 48) (by omega) (hOe ▸ hO) (by decide)
      rw [← hOe] at hfl hoct
      rw [hfl] at hz
      have hLl : L.length ≤ 79 := by
        have h1 := (adj_len L hAdj).1
        rw [hoct] at h1
        omega
      k_steps
      unfold Stop
      refine (tokens_cl z ee tz u L hE hTok hz (by omega)).use (by with_reducible assumption) F6 (by with_reducible assumption) N6 (by with_reducible assumption) rfl trivial (by decide) (by decide) ?_
      rintro v7 nw7 h7 tk7 ⟨D7, n7, ws7, tups, rfl, rfl, hT7⟩ F7 N7 hn7 _
      clear F6 N6
      dsimp only
      k_steps
      unfold Stop
      rename_i h8 F8 N8
      refine comp2 F8 N8 (hT7.at N8 (List.mem_append.mpr (.inl List.mem_cons_self)) (fun p hp => List.mem_append.mpr (.inl (List.mem_cons_of_mem _ hp)))) (by rfl) (by rw [hoct]; omega) (by rfl) (by decide) (by rfl) (by decide) (by rfl) (by rfl) (by rfl) (by decide) (by decide) (fun Q' hq => by k_steps; exact hq) (fun D9 ws9 n9 h9 tk9 F9 N9 off9 hI9 => ?_) (fun _ => rfl)
      clear F8 N8
      rw [hoct] at hI9
      have N10 : News s1.heap s1.heap.objs.size h9 ((D9, listOf ws9.toArray n9) :: (D2, listOf ws2.toArray n2) :: (D7, listOf (List.toArray ws7) n7) :: tups) := fun p hp => N9 p (by
        simp only [List.mem_cons, List.mem_append, List.not_mem_nil, or_false] at hp ⊢
        rcases hp with h | h | h | h
        · exact .inl h
        · exact .inr (.inr h)
        · exact .inr (.inl (.inl h))
        · exact .inr (.inl (.inr h)))
      clear N9 off9
      k_steps
      unfold Stop
      refine ke_ne_ints (xs := ws9) (ys := ws2) ⟨_, (N10 _ List.mem_cons_self).1, rfl, _, rfl⟩ ⟨_, (N10 _ (List.Mem.tail _ (List.Mem.head _))).1, rfl, _, rfl⟩ hI9 hI2 (by ke_room) ?_
      rw [decide_eq_true rfl, Bool.not_true]
      have hz300 : z.length ≤ 300 := by
        rw [← ch_len, hz]
        have h1 : (flatT (ch ee) L).length ≤ 3 * L.length := flatT_len (by rw [ch_len]; exact heel.1) L
        omega
      k_steps
      unfold Stop
      rename Fr _ _ _ _ => lF'
      with_unfolding_all refine' For_invVF lF' ?k1 ?k2 ?_
      case k1 => exact rfl
      case k2 => exact rfl
      k_whole
      k_steps
      unfold Stop
      rename_i h12 Dx wx hx hIx hCx hLx l1x lx hx2 l1y DL wsL hL F11 N11 hIL l1L
      obtain ⟨nb, N12, hD7, htp⟩ : ∃ nb, News s1.heap s1.heap.objs.size hL ((DL, listOf (List.toArray wsL) 0) :: nb) ∧ (D7, listOf (List.toArray ws7) n7) ∈ nb ∧ ∀ p ∈ tups, p ∈ nb := ⟨_, N11, by simp, fun p hp => by simp [hp]⟩
      obtain ⟨rt, F12⟩ : ∃ rt : Tok, Fr s1.heap s1.heap.objs.size hL (fun y => if y = Str.ofString "room" then some (.int ((z.length : Int) - 6) rt) else if y = Str.ofString "tokens" then some (.ref D7) else if y = Str.ofString "letter" then some (.str z tz) else if y = Str.ofString "ends" then some (.str ee u) else if y = Str.ofString "octets" then some (.ref D2) else if y = Str.ofString "total" then some (.int ns.sum tt) else if y = Str.ofString "script" then some (.ref l0) else none) := ⟨_, F11⟩
      clear F11 N11 hCx hLx l1x l1y l1L hIx
      refine for_led (σ := Unit) (l := DL) (vs := wsL) (nn := 0) (fun _ => (DL, listOf (List.toArray wsL) 0) :: nb) (fun _ => [(Str.ofString "room", .int ((z.length : Int) - 6) rt), (Str.ofString "tokens", .ref D7), (Str.ofString "letter", .str z tz)]) ["start", "stop"] (fun _ _ => True) () rfl (fun _ => List.Mem.head _) F12 N12 (by refine List.forall_mem_cons.mpr ⟨?_, List.forall_mem_cons.mpr ⟨?_, List.forall_mem_cons.mpr ⟨?_, List.forall_mem_nil _⟩⟩⟩ <;> exact rfl) trivial (fun i v c u h tk own hv hoff _ F13 N13 => ?turn) (fun c u h tk _ F13 N13 => ?done)
      case done =>
        clear F12 N12
        dsimp only [kstB] at F13 N13
        k_steps
      case turn =>
        clear F12 N12
        obtain ⟨xv, tv, rfl, hxv⟩ := IntsAre.at hIL i v hv
        dsimp only [kstB] at F13 N13 hoff
        replace F13 : Fr s1.heap s1.heap.objs.size h _ := F13
        replace N13 : News s1.heap s1.heap.objs.size h _ := N13
        have hroom : 1 ≤ (z.length : Int) - 6 := by
          have h1 := flat_ge (ch ee) L
          rw [hoct, ← hz, ch_len] at h1
          omega
        have hm1 := @fm xv ((z.length : Int) - 6) (by omega)
        have hm2 := @fm (xv.fdiv ((z.length : Int) - 6)) ((z.length : Int) - 6 - xv.fmod ((z.length : Int) - 6)) (by omega)
        generalize hnb2 : (DL, listOf (List.toArray wsL) 0) :: nb ++ own = nb2 at N13
        obtain ⟨sa, hsa⟩ : ∃ sa : Nat, xv.fmod ((z.length : Int) - 6) = sa := ⟨_, (Int.toNat_of_nonneg hm1.1).symm⟩
        rw [hsa] at hm1 hm2
        obtain ⟨sd, hsd⟩ : ∃ sd : Nat, (xv.fdiv ((z.length : Int) - 6)).fmod ((z.length : Int) - 6 - sa) = sd := ⟨_, (Int.toNat_of_nonneg hm2.1).symm⟩
        rw [hsd] at hm2
        have hzl := ch_len z
        have hPl : sa + (7 + sd) ≤ (flatT (ch ee) L).length := by rw [← hz, hzl]; omega
        have hP1 : ch (Txt.slice z (some (sa : Int)) (some ((sa : Int) + 7 + (sd : Int)))) = ((flatT (ch ee) L).drop sa).take (7 + sd) := by
          rw [show (sa : Int) + 7 + (sd : Int) = ((sa + (7 + sd) : Nat) : Int) by omega, tk_slice, hz, Nat.add_sub_cancel_left]
        have hPc := left_piece hE hTok hAdj hPl (by omega) hP1
        obtain ⟨mT, hmT, F13⟩ := fr_gen (P := fun mT => Fr s1.heap s1.heap.objs.size h (fun y => if y = Str.ofString "x" then some (.int xv tv) else if y = Str.ofString "room" then some (.int ((z.length : Int) - 6) rt) else if y = Str.ofString "tokens" then some (.ref D7) else if y = Str.ofString "letter" then some (.str z tz) else mT y)) F13
        refine post_var fun TT hTT => ?_
        k_steps
        unfold Stop
        simp only [hsa, hsd]
        have hxl : (Txt.slice z (some (sa : Int)) (some ((sa : Int) + 7 + (sd : Int)))).length ≤ 300 := by
          rw [← ch_len, hP1, List.length_take, List.length_drop]; omega
        have hFl : (leftF (ch ee) L sa (sa + (7 + sd : Nat))).length ≤ 300 := by
          have h1 := (left_len (by rw [ch_len]; exact heel.1) L ([], 0, (sa : Int), (sa : Int) + (7 + sd : Nat))).1
          unfold leftF cutB
          rw [List.length_take]
          simp only [List.length_nil] at h1
          omega
        refine (decode_cl1 _ _).use (by with_reducible assumption) (by with_reducible assumption) (by with_reducible assumption) (by with_reducible assumption) (by with_reducible assumption) rfl ⟨by omega, by have := hPc.2; omega⟩ (by decide) (by decide) ?_
        rintro v14 nw14 h14 tk14 ⟨rfl, z14, t14, rfl, hz14⟩ F14 N14 _ _
        rw [List.nil_append] at N14
        rw [hPc.1] at hz14
        dsimp only
        k_steps
        unfold Stop
        refine (read_cl z14 _).use (by with_reducible assumption) F14 (by with_reducible assumption) N14 (by with_reducible assumption) (by with_reducible assumption) (by with_reducible assumption) rfl (by rw [← ch_len, hz14]; omega) (by decide) (by decide) ?_
        rintro v15 nw15 h15 tk15 ⟨l15, n15, vs15, rfl, rfl, hI15⟩ F15 N15 hn15
        rw [hz14] at hI15
        clear F14 N14
        dsimp only
        k_steps
        unfold Stop
        simp only [hsa, hsd]
        have hsub : ∀ p ∈ nb, p ∈ nb2 := fun p hp => by rw [← hnb2]; exact List.mem_append.mpr (.inl (List.mem_cons_of_mem _ hp))
        have hTA := hT7.at N15 (l := D7) (n := n7) (List.mem_append.mpr (.inr (hsub _ hD7))) (fun p hp => List.mem_append.mpr (.inr (hsub _ (htp p hp))))
        refine (left_cl D7 (ch ee) L (sa : Int) ((sa : Int) + 7 + (sd : Int)) _ _ (by rw [ch_len]; exact heel.1) (by omega) (by omega) (by omega)).use (by with_reducible assumption) F15 (by with_reducible assumption) N15 (by with_reducible assumption) rfl hTA (by decide) (by decide) ?_
        rintro v16 nw16 h16 tk16 ⟨D16, n16, ws16, rfl, rfl, hI16⟩ F16 N16 hn16 _
        rw [show (sa : Int) + 7 + (sd : Int) = (sa : Int) + ((7 + sd : Nat) : Int) by omega] at hI16
        clear F15 N15
        dsimp only
        k_steps
        unfold Stop
        refine (numbers_cl D16 ws16 _ hI16 (by omega)).use (by with_reducible assumption) F16 (by with_reducible assumption) N16 (by with_reducible assumption) rfl ⟨_, (N16 _ List.mem_cons_self).1, rfl, _, rfl⟩ (by decide) (by decide) ?_
        rintro v17 nw17 h17 tk17 ⟨D17, n17, ws17, rfl, rfl, hI17⟩ F17 N17 hn17 _
        rw [num_read] at hI17
        clear F16 N16
        dsimp only
        k_steps
        unfold Stop
        rename News _ _ _ _ => N18
        refine ke_ne_ints (xs := vs15) (ys := ws17) ⟨_, (N18 (l15, listOf vs15.toArray n15) (by simp)).1, rfl, _, rfl⟩ ⟨_, (N18 (D17, listOf ws17.toArray n17) (by simp)).1, rfl, _, rfl⟩ hI15 hI17 (by ke_room) ?_
        rw [decide_eq_true rfl, Bool.not_true]
        k_steps
        subst hTT
        rename Fr _ _ _ _ => F19
        rename News _ _ _ _ => N19
        refine turn_next () F19 N19 (fun p hp => ?_) (fun p hp => ?_) hoff ?_ ?_ trivial
        · have hp' : p ∈ nb2 := by rw [← hnb2]; exact List.mem_append.mpr (.inl hp)
          simp [hp']
        · have hp' : p ∈ nb2 := by rw [← hnb2]; exact List.mem_append.mpr (.inr hp)
          simp [hp']
        · refine List.forall_mem_cons.mpr ⟨?_, List.forall_mem_cons.mpr ⟨?_, List.forall_mem_cons.mpr ⟨?_, List.forall_mem_nil _⟩⟩⟩ <;> exact rfl
        · intro z h1 h2 h3
          try dsimp only
          repeat (first | with_reducible rfl | exact (congrFun hmT z).trans (if_neg (Bool.eq_false_iff.mp h3)) | refine (if_neg (by first | exact h1 | exact off_stored h3 rfl | exact h2 _ (.head _) | exact h2 _ (.tail _ (.head _)) | exact h2 _ (.tail _ (.tail _ (.head _))))).trans ?_)
end
end Mine
theorem PySem.Challenge.cw_ny0161_02_holds : PySem.Challenge.rw_ny0161_02.Holds :=
  Mine.law2
