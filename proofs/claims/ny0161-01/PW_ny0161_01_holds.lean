import PyProof.Rows.All
import Wide.All
import OpenK.AllK
import Wide.FinOn
import PySem.Challenge.RW_ny0161_01
open PySem PySem.W PyProof.Rows
set_option Elab.async false
-- text HD1
namespace Mine
set_option maxRecDepth 100000
set_option linter.unusedVariables false
theorem hdMore {tb : String → Option Builtin} {p : Program} {w : World} {n₀ : Nat} {ann : Option Value} {b : Nat} (k : Nat) : ∀ (n : Nat) (s : Shared) (t : Thread) (r : Flow × Shared × Code × Pos), segRun tb p w n₀ ann b n s t = some r → segRun tb p w n₀ ann b (n + k) s t = some r
  | 0, _, _, _, h => by cases h
  | n + 1, s, t, r, h => by
    rw [Nat.add_right_comm]
    unfold segRun at h ⊢
    cases he : endAt b t with
    | some f => rw [he] at h; exact h
    | none =>
      rw [he] at h
      cases hk : stepOk n₀ ann t with
      | false => rw [hk] at h; cases h
      | true =>
        rw [hk] at h
        cases hs : step (denote tb) p w s t with
        | halt o s₂ => rw [hs] at h; cases h
        | go s₂ t₂ => rw [hs] at h; exact hdMore k n s₂ t₂ r h
theorem hdMono {tb : String → Option Builtin} {p : Program} {w : World} {n₀ : Nat} {ann : Option Value} {b n N : Nat} (le : n ≤ N) {s : Shared} {t : Thread} {r : Flow × Shared × Code × Pos} (h : segRun tb p w n₀ ann b n s t = some r) : segRun tb p w n₀ ann b N s t = some r := by
  have := hdMore (N - n) n s t r h
  rwa [Nat.add_sub_cancel' le] at this
theorem hdBy (row : String) {P : World → Prop} {w : World} (hf : P (w.withFollow row false)) (ht : P (w.withFollow row true)) : P w := by
  have h : ∀ b, P (w.withFollow row b) := fun b => by cases b <;> assumption
  have := h (w.params.followText row)
  rwa [World.withFollow_self] at this
/-- the program of the law -/
abbrev hdProg : Program := PySem.Challenge.rw_ny0161_01.row.prog
/-- a statement of the top -/
noncomputable def hdStm (i : Nat) : Stmt := (hdProg.main.body[i]?).getD (.Pass ⟨0, 0, 0, 0⟩)
/-- the object that a def of the top leaves -/
noncomputable def hdFn (i : Nat) (c : Value) (g : Addr) (d kd doc pm cd : Value) : Obj := match hdStm i with
  | .FunctionDef n a b _ _ _ sc _ _ _ => { cls := c, dict := none, data := .func { name := n, qualname := n, params := a, body := .stmts b, scope := sc, globals := g, closure := [], defaults := d, kwdefaults := kd, doc := doc, pyModule := pm, annotations := none, code := cd, closureTuple := .none, builtins := 0 }, slots := #[] }
  | _ => default
noncomputable def hdView : Program := { hdProg with main := { hdProg.main with body := [hdStm 0, hdStm 1, hdStm 2, hdStm 3, hdStm 4, hdStm 5, hdStm 6, hdStm 7, hdStm 8, hdStm 9, hdStm 14, hdStm 15, hdStm 16, hdStm 22, hdStm 24, hdStm 25, hdStm 26, hdStm 27, hdStm 28] } }
abbrev hdLoose : List PySem.Str := [Str.ofString "_QUOPRI_MAP", Str.ofString "_QUOPRI_HEADER_MAP", Str.ofString "_QUOPRI_BODY_MAP", Str.ofString "ascii_letters", Str.ofString "hexdigits", Str.ofString "_QUOPRI_BODY_ENCODE_MAP", Str.ofString "body_encode", Str.ofString "decode"]
abbrev hdLv : List (PySem.Str × WData) := [(Str.ofString "ascii_letters", WData.str ⟨#[97, 98, 99, 100, 101, 102, 103, 104, 105, 106, 107, 108, 109, 110, 111, 112, 113, 114, 115, 116, 117, 118, 119, 120, 121, 122, 65, 66, 67, 68, 69, 70, 71, 72, 73, 74, 75, 76, 77, 78, 79, 80, 81, 82, 83, 84, 85, 86, 87, 88, 89, 90]⟩), (Str.ofString "hexdigits", WData.str ⟨#[48, 49, 50, 51, 52, 53, 54, 55, 56, 57, 97, 98, 99, 100, 101, 102, 65, 66, 67, 68, 69, 70]⟩)]
noncomputable def hdK : Params → Frag := fun P =>
  (nat_lit 2, ⟨.none, none, .dict #[] 0, #[]⟩) ::
  (nat_lit 3, ⟨.type "dict", none, .dict #[⟨PyData.keyHash P (Str.ofString "__name__"), .str (Str.ofString "__name__") 165, .str (Str.ofString "law_ny0161_01") 1799⟩, ⟨PyData.keyHash P (Str.ofString "__doc__"), .str (Str.ofString "__doc__") 166, .none⟩, ⟨PyData.keyHash P (Str.ofString "__package__"), .str (Str.ofString "__package__") 167, .none⟩, ⟨PyData.keyHash P (Str.ofString "__loader__"), .str (Str.ofString "__loader__") 168, .builtin "__main__.__loader__#opaque"⟩, ⟨PyData.keyHash P (Str.ofString "__spec__"), .str (Str.ofString "__spec__") 169, .none⟩, ⟨PyData.keyHash P (Str.ofString "__annotations__"), .str (Str.ofString "__annotations__") 170, .ref 6⟩, ⟨PyData.keyHash P (Str.ofString "__builtins__"), .str (Str.ofString "__builtins__") 171, .ref 4⟩, ⟨PyData.keyHash P (Str.ofString "__file__"), .str (Str.ofString "__file__") 173, .str (Str.ofString "/claim/cut.py") 172⟩, ⟨PyData.keyHash P (Str.ofString "__cached__"), .str (Str.ofString "__cached__") 174, .none⟩, ⟨PyData.keyHash P (Str.ofString "CRLF"), .str (Str.ofString "CRLF") 188, .str (Str.ofString "\x0d\n") 187⟩, ⟨PyData.keyHash P (Str.ofString "NL"), .str (Str.ofString "NL") 190, .str (Str.ofString "\n") 189⟩, ⟨PyData.keyHash P (Str.ofString "_QUOPRI_MAP"), .str (Str.ofString "_QUOPRI_MAP") 1218, .ref 17⟩, ⟨PyData.keyHash P (Str.ofString "_QUOPRI_HEADER_MAP"), .str (Str.ofString "_QUOPRI_HEADER_MAP") 1219, .ref 22⟩, ⟨PyData.keyHash P (Str.ofString "_QUOPRI_BODY_MAP"), .str (Str.ofString "_QUOPRI_BODY_MAP") 1220, .ref 24⟩, ⟨PyData.keyHash P (Str.ofString "ascii_lowercase"), .str (Str.ofString "ascii_lowercase") 1222, .str (Str.ofString "abcdefghijklmnopqrstuvwxyz") 1221⟩, ⟨PyData.keyHash P (Str.ofString "ascii_uppercase"), .str (Str.ofString "ascii_uppercase") 1224, .str (Str.ofString "ABCDEFGHIJKLMNOPQRSTUVWXYZ") 1223⟩, ⟨PyData.keyHash P (Str.ofString "ascii_letters"), .str (Str.ofString "ascii_letters") 1226, .str (Str.ofString "abcdefghijklmnopqrstuvwxyzABCDEFGHIJKLMNOPQRSTUVWXYZ") 1225⟩, ⟨PyData.keyHash P (Str.ofString "digits"), .str (Str.ofString "digits") 1228, .str (Str.ofString "0123456789") 1227⟩, ⟨PyData.keyHash P (Str.ofString "hexdigits"), .str (Str.ofString "hexdigits") 1233, .str (Str.ofString "0123456789abcdefABCDEF") 1232⟩, ⟨PyData.keyHash P (Str.ofString "unquote"), .str (Str.ofString "unquote") 1739, .ref 37⟩, ⟨PyData.keyHash P (Str.ofString "quote"), .str (Str.ofString "quote") 1746, .ref 44⟩, ⟨PyData.keyHash P (Str.ofString "_QUOPRI_BODY_ENCODE_MAP"), .str (Str.ofString "_QUOPRI_BODY_ENCODE_MAP") 1747, .ref 46⟩, ⟨PyData.keyHash P (Str.ofString "body_encode"), .str (Str.ofString "body_encode") 1774, .ref 57⟩, ⟨PyData.keyHash P (Str.ofString "decode"), .str (Str.ofString "decode") 1787, .ref 65⟩, ⟨PyData.keyHash P (Str.ofString "_parse_varint"), .str (Str.ofString "_parse_varint") 1798, .ref 72⟩, ⟨PyData.keyHash P (Str.ofString "_law_item"), .str (Str.ofString "_law_item") 1810, .ref 79⟩, ⟨PyData.keyHash P (Str.ofString "_law_text"), .str (Str.ofString "_law_text") 1822, .ref 86⟩, ⟨PyData.keyHash P (Str.ofString "_law_read"), .str (Str.ofString "_law_read") 1828, .ref 91⟩, ⟨PyData.keyHash P (Str.ofString "_law_due"), .str (Str.ofString "_law_due") 1844, .ref 98⟩, ⟨PyData.keyHash P (Str.ofString "law"), .str (Str.ofString "law") 1850, .ref 103⟩] 32, #[]⟩) ::
  (nat_lit 6, ⟨.type "dict", none, .dict #[] 0, #[]⟩) ::
  (nat_lit 17, ⟨.type "list", none, .seq (List.toArray (.str (Str.ofString "=00") 197 ::
 .str (Str.ofString "=01") 201 ::
 .str (Str.ofString "=02") 205 ::
 .str (Str.ofString "=03") 209 ::
 .str (Str.ofString "=04") 213 ::
 .str (Str.ofString "=05") 217 ::
 .str (Str.ofString "=06") 221 ::
 .str (Str.ofString "=07") 225 ::
 .str (Str.ofString "=08") 229 ::
 .str (Str.ofString "=09") 233 ::
 .str (Str.ofString "=0A") 237 ::
 .str (Str.ofString "=0B") 241 ::
 .str (Str.ofString "=0C") 245 ::
 .str (Str.ofString "=0D") 249 ::
 .str (Str.ofString "=0E") 253 ::
 .str (Str.ofString "=0F") 257 ::
 .str (Str.ofString "=10") 261 ::
 .str (Str.ofString "=11") 265 ::
 .str (Str.ofString "=12") 269 ::
 .str (Str.ofString "=13") 273 ::
 .str (Str.ofString "=14") 277 ::
 .str (Str.ofString "=15") 281 ::
 .str (Str.ofString "=16") 285 ::
 .str (Str.ofString "=17") 289 ::
 .str (Str.ofString "=18") 293 ::
 .str (Str.ofString "=19") 297 ::
 .str (Str.ofString "=1A") 301 ::
 .str (Str.ofString "=1B") 305 ::
 .str (Str.ofString "=1C") 309 ::
 .str (Str.ofString "=1D") 313 ::
 .str (Str.ofString "=1E") 317 ::
 .str (Str.ofString "=1F") 321 ::
 .str (Str.ofString "=20") 325 ::
 .str (Str.ofString "=21") 329 ::
 .str (Str.ofString "=22") 333 ::
 .str (Str.ofString "=23") 337 ::
 .str (Str.ofString "=24") 341 ::
 .str (Str.ofString "=25") 345 ::
 .str (Str.ofString "=26") 349 ::
 .str (Str.ofString "=27") 353 ::
 .str (Str.ofString "=28") 357 ::
 .str (Str.ofString "=29") 361 ::
 .str (Str.ofString "=2A") 365 ::
 .str (Str.ofString "=2B") 369 ::
 .str (Str.ofString "=2C") 373 ::
 .str (Str.ofString "=2D") 377 ::
 .str (Str.ofString "=2E") 381 ::
 .str (Str.ofString "=2F") 385 ::
 .str (Str.ofString "=30") 389 ::
 .str (Str.ofString "=31") 393 ::
 .str (Str.ofString "=32") 397 ::
 .str (Str.ofString "=33") 401 ::
 .str (Str.ofString "=34") 405 ::
 .str (Str.ofString "=35") 409 ::
 .str (Str.ofString "=36") 413 ::
 .str (Str.ofString "=37") 417 ::
 .str (Str.ofString "=38") 421 ::
 .str (Str.ofString "=39") 425 ::
 .str (Str.ofString "=3A") 429 ::
 .str (Str.ofString "=3B") 433 ::
 .str (Str.ofString "=3C") 437 ::
 .str (Str.ofString "=3D") 441 ::
 .str (Str.ofString "=3E") 445 ::
 .str (Str.ofString "=3F") 449 ::
 .str (Str.ofString "=40") 453 ::
 .str (Str.ofString "=41") 457 ::
 .str (Str.ofString "=42") 461 ::
 .str (Str.ofString "=43") 465 ::
 .str (Str.ofString "=44") 469 ::
 .str (Str.ofString "=45") 473 ::
 .str (Str.ofString "=46") 477 ::
 .str (Str.ofString "=47") 481 ::
 .str (Str.ofString "=48") 485 ::
 .str (Str.ofString "=49") 489 ::
 .str (Str.ofString "=4A") 493 ::
 .str (Str.ofString "=4B") 497 ::
 .str (Str.ofString "=4C") 501 ::
 .str (Str.ofString "=4D") 505 ::
 .str (Str.ofString "=4E") 509 ::
 .str (Str.ofString "=4F") 513 ::
 .str (Str.ofString "=50") 517 ::
 .str (Str.ofString "=51") 521 ::
 .str (Str.ofString "=52") 525 ::
 .str (Str.ofString "=53") 529 ::
 .str (Str.ofString "=54") 533 ::
 .str (Str.ofString "=55") 537 ::
 .str (Str.ofString "=56") 541 ::
 .str (Str.ofString "=57") 545 ::
 .str (Str.ofString "=58") 549 ::
 .str (Str.ofString "=59") 553 ::
 .str (Str.ofString "=5A") 557 ::
 .str (Str.ofString "=5B") 561 ::
 .str (Str.ofString "=5C") 565 ::
 .str (Str.ofString "=5D") 569 ::
 .str (Str.ofString "=5E") 573 ::
 .str (Str.ofString "=5F") 577 ::
 .str (Str.ofString "=60") 581 ::
 .str (Str.ofString "=61") 585 ::
 .str (Str.ofString "=62") 589 ::
 .str (Str.ofString "=63") 593 ::
 .str (Str.ofString "=64") 597 ::
 .str (Str.ofString "=65") 601 ::
 .str (Str.ofString "=66") 605 ::
 .str (Str.ofString "=67") 609 ::
 .str (Str.ofString "=68") 613 ::
 .str (Str.ofString "=69") 617 ::
 .str (Str.ofString "=6A") 621 ::
 .str (Str.ofString "=6B") 625 ::
 .str (Str.ofString "=6C") 629 ::
 .str (Str.ofString "=6D") 633 ::
 .str (Str.ofString "=6E") 637 ::
 .str (Str.ofString "=6F") 641 ::
 .str (Str.ofString "=70") 645 ::
 .str (Str.ofString "=71") 649 ::
 .str (Str.ofString "=72") 653 ::
 .str (Str.ofString "=73") 657 ::
 .str (Str.ofString "=74") 661 ::
 .str (Str.ofString "=75") 665 ::
 .str (Str.ofString "=76") 669 ::
 .str (Str.ofString "=77") 673 ::
 .str (Str.ofString "=78") 677 ::
 .str (Str.ofString "=79") 681 ::
 .str (Str.ofString "=7A") 685 ::
 .str (Str.ofString "=7B") 689 ::
 .str (Str.ofString "=7C") 693 ::
 .str (Str.ofString "=7D") 697 ::
 .str (Str.ofString "=7E") 701 ::
 .str (Str.ofString "=7F") 705 ::
 .str (Str.ofString "=80") 709 ::
 .str (Str.ofString "=81") 713 ::
 .str (Str.ofString "=82") 717 ::
 .str (Str.ofString "=83") 721 ::
 .str (Str.ofString "=84") 725 ::
 .str (Str.ofString "=85") 729 ::
 .str (Str.ofString "=86") 733 ::
 .str (Str.ofString "=87") 737 ::
 .str (Str.ofString "=88") 741 ::
 .str (Str.ofString "=89") 745 ::
 .str (Str.ofString "=8A") 749 ::
 .str (Str.ofString "=8B") 753 ::
 .str (Str.ofString "=8C") 757 ::
 .str (Str.ofString "=8D") 761 ::
 .str (Str.ofString "=8E") 765 ::
 .str (Str.ofString "=8F") 769 ::
 .str (Str.ofString "=90") 773 ::
 .str (Str.ofString "=91") 777 ::
 .str (Str.ofString "=92") 781 ::
 .str (Str.ofString "=93") 785 ::
 .str (Str.ofString "=94") 789 ::
 .str (Str.ofString "=95") 793 ::
 .str (Str.ofString "=96") 797 ::
 .str (Str.ofString "=97") 801 ::
 .str (Str.ofString "=98") 805 ::
 .str (Str.ofString "=99") 809 ::
 .str (Str.ofString "=9A") 813 ::
 .str (Str.ofString "=9B") 817 ::
 .str (Str.ofString "=9C") 821 ::
 .str (Str.ofString "=9D") 825 ::
 .str (Str.ofString "=9E") 829 ::
 .str (Str.ofString "=9F") 833 ::
 .str (Str.ofString "=A0") 837 ::
 .str (Str.ofString "=A1") 841 ::
 .str (Str.ofString "=A2") 845 ::
 .str (Str.ofString "=A3") 849 ::
 .str (Str.ofString "=A4") 853 ::
 .str (Str.ofString "=A5") 857 ::
 .str (Str.ofString "=A6") 861 ::
 .str (Str.ofString "=A7") 865 ::
 .str (Str.ofString "=A8") 869 ::
 .str (Str.ofString "=A9") 873 ::
 .str (Str.ofString "=AA") 877 ::
 .str (Str.ofString "=AB") 881 ::
 .str (Str.ofString "=AC") 885 ::
 .str (Str.ofString "=AD") 889 ::
 .str (Str.ofString "=AE") 893 ::
 .str (Str.ofString "=AF") 897 ::
 .str (Str.ofString "=B0") 901 ::
 .str (Str.ofString "=B1") 905 ::
 .str (Str.ofString "=B2") 909 ::
 .str (Str.ofString "=B3") 913 ::
 .str (Str.ofString "=B4") 917 ::
 .str (Str.ofString "=B5") 921 ::
 .str (Str.ofString "=B6") 925 ::
 .str (Str.ofString "=B7") 929 ::
 .str (Str.ofString "=B8") 933 ::
 .str (Str.ofString "=B9") 937 ::
 .str (Str.ofString "=BA") 941 ::
 .str (Str.ofString "=BB") 945 ::
 .str (Str.ofString "=BC") 949 ::
 .str (Str.ofString "=BD") 953 ::
 .str (Str.ofString "=BE") 957 ::
 .str (Str.ofString "=BF") 961 ::
 .str (Str.ofString "=C0") 965 ::
 .str (Str.ofString "=C1") 969 ::
 .str (Str.ofString "=C2") 973 ::
 .str (Str.ofString "=C3") 977 ::
 .str (Str.ofString "=C4") 981 ::
 .str (Str.ofString "=C5") 985 ::
 .str (Str.ofString "=C6") 989 ::
 .str (Str.ofString "=C7") 993 ::
 .str (Str.ofString "=C8") 997 ::
 .str (Str.ofString "=C9") 1001 ::
 .str (Str.ofString "=CA") 1005 ::
 .str (Str.ofString "=CB") 1009 ::
 .str (Str.ofString "=CC") 1013 ::
 .str (Str.ofString "=CD") 1017 ::
 .str (Str.ofString "=CE") 1021 ::
 .str (Str.ofString "=CF") 1025 ::
 .str (Str.ofString "=D0") 1029 ::
 .str (Str.ofString "=D1") 1033 ::
 .str (Str.ofString "=D2") 1037 ::
 .str (Str.ofString "=D3") 1041 ::
 .str (Str.ofString "=D4") 1045 ::
 .str (Str.ofString "=D5") 1049 ::
 .str (Str.ofString "=D6") 1053 ::
 .str (Str.ofString "=D7") 1057 ::
 .str (Str.ofString "=D8") 1061 ::
 .str (Str.ofString "=D9") 1065 ::
 .str (Str.ofString "=DA") 1069 ::
 .str (Str.ofString "=DB") 1073 ::
 .str (Str.ofString "=DC") 1077 ::
 .str (Str.ofString "=DD") 1081 ::
 .str (Str.ofString "=DE") 1085 ::
 .str (Str.ofString "=DF") 1089 ::
 .str (Str.ofString "=E0") 1093 ::
 .str (Str.ofString "=E1") 1097 ::
 .str (Str.ofString "=E2") 1101 ::
 .str (Str.ofString "=E3") 1105 ::
 .str (Str.ofString "=E4") 1109 ::
 .str (Str.ofString "=E5") 1113 ::
 .str (Str.ofString "=E6") 1117 ::
 .str (Str.ofString "=E7") 1121 ::
 .str (Str.ofString "=E8") 1125 ::
 .str (Str.ofString "=E9") 1129 ::
 .str (Str.ofString "=EA") 1133 ::
 .str (Str.ofString "=EB") 1137 ::
 .str (Str.ofString "=EC") 1141 ::
 .str (Str.ofString "=ED") 1145 ::
 .str (Str.ofString "=EE") 1149 ::
 .str (Str.ofString "=EF") 1153 ::
 .str (Str.ofString "=F0") 1157 ::
 .str (Str.ofString "=F1") 1161 ::
 .str (Str.ofString "=F2") 1165 ::
 .str (Str.ofString "=F3") 1169 ::
 .str (Str.ofString "=F4") 1173 ::
 .str (Str.ofString "=F5") 1177 ::
 .str (Str.ofString "=F6") 1181 ::
 .str (Str.ofString "=F7") 1185 ::
 .str (Str.ofString "=F8") 1189 ::
 .str (Str.ofString "=F9") 1193 ::
 .str (Str.ofString "=FA") 1197 ::
 .str (Str.ofString "=FB") 1201 ::
 .str (Str.ofString "=FC") 1205 ::
 .str (Str.ofString "=FD") 1209 ::
 .str (Str.ofString "=FE") 1213 ::
 .str (Str.ofString "=FF") 1217 ::
 [])) 256, #[]⟩) ::
  (nat_lit 22, ⟨.type "list", none, .seq (List.toArray (.str (Str.ofString "=00") 197 ::
 .str (Str.ofString "=01") 201 ::
 .str (Str.ofString "=02") 205 ::
 .str (Str.ofString "=03") 209 ::
 .str (Str.ofString "=04") 213 ::
 .str (Str.ofString "=05") 217 ::
 .str (Str.ofString "=06") 221 ::
 .str (Str.ofString "=07") 225 ::
 .str (Str.ofString "=08") 229 ::
 .str (Str.ofString "=09") 233 ::
 .str (Str.ofString "=0A") 237 ::
 .str (Str.ofString "=0B") 241 ::
 .str (Str.ofString "=0C") 245 ::
 .str (Str.ofString "=0D") 249 ::
 .str (Str.ofString "=0E") 253 ::
 .str (Str.ofString "=0F") 257 ::
 .str (Str.ofString "=10") 261 ::
 .str (Str.ofString "=11") 265 ::
 .str (Str.ofString "=12") 269 ::
 .str (Str.ofString "=13") 273 ::
 .str (Str.ofString "=14") 277 ::
 .str (Str.ofString "=15") 281 ::
 .str (Str.ofString "=16") 285 ::
 .str (Str.ofString "=17") 289 ::
 .str (Str.ofString "=18") 293 ::
 .str (Str.ofString "=19") 297 ::
 .str (Str.ofString "=1A") 301 ::
 .str (Str.ofString "=1B") 305 ::
 .str (Str.ofString "=1C") 309 ::
 .str (Str.ofString "=1D") 313 ::
 .str (Str.ofString "=1E") 317 ::
 .str (Str.ofString "=1F") 321 ::
 .str (Str.ofString "_") 1444 ::
 .str (Str.ofString "!") 1248 ::
 .str (Str.ofString "=22") 333 ::
 .str (Str.ofString "=23") 337 ::
 .str (Str.ofString "=24") 341 ::
 .str (Str.ofString "=25") 345 ::
 .str (Str.ofString "=26") 349 ::
 .str (Str.ofString "=27") 353 ::
 .str (Str.ofString "=28") 357 ::
 .str (Str.ofString "=29") 361 ::
 .str (Str.ofString "*") 1251 ::
 .str (Str.ofString "+") 1254 ::
 .str (Str.ofString "=2C") 373 ::
 .str (Str.ofString "-") 1245 ::
 .str (Str.ofString "=2E") 381 ::
 .str (Str.ofString "/") 1257 ::
 .str (Str.ofString "0") 1416 ::
 .str (Str.ofString "1") 1419 ::
 .str (Str.ofString "2") 1422 ::
 .str (Str.ofString "3") 1425 ::
 .str (Str.ofString "4") 1428 ::
 .str (Str.ofString "5") 1431 ::
 .str (Str.ofString "6") 1434 ::
 .str (Str.ofString "7") 1437 ::
 .str (Str.ofString "8") 1440 ::
 .str (Str.ofString "9") 1443 ::
 .str (Str.ofString "=3A") 429 ::
 .str (Str.ofString "=3B") 433 ::
 .str (Str.ofString "=3C") 437 ::
 .str (Str.ofString "=3D") 441 ::
 .str (Str.ofString "=3E") 445 ::
 .str (Str.ofString "=3F") 449 ::
 .str (Str.ofString "=40") 453 ::
 .str (Str.ofString "A") 1338 ::
 .str (Str.ofString "B") 1341 ::
 .str (Str.ofString "C") 1344 ::
 .str (Str.ofString "D") 1347 ::
 .str (Str.ofString "E") 1350 ::
 .str (Str.ofString "F") 1353 ::
 .str (Str.ofString "G") 1356 ::
 .str (Str.ofString "H") 1359 ::
 .str (Str.ofString "I") 1362 ::
 .str (Str.ofString "J") 1365 ::
 .str (Str.ofString "K") 1368 ::
 .str (Str.ofString "L") 1371 ::
 .str (Str.ofString "M") 1374 ::
 .str (Str.ofString "N") 1377 ::
 .str (Str.ofString "O") 1380 ::
 .str (Str.ofString "P") 1383 ::
 .str (Str.ofString "Q") 1386 ::
 .str (Str.ofString "R") 1389 ::
 .str (Str.ofString "S") 1392 ::
 .str (Str.ofString "T") 1395 ::
 .str (Str.ofString "U") 1398 ::
 .str (Str.ofString "V") 1401 ::
 .str (Str.ofString "W") 1404 ::
 .str (Str.ofString "X") 1407 ::
 .str (Str.ofString "Y") 1410 ::
 .str (Str.ofString "Z") 1413 ::
 .str (Str.ofString "=5B") 561 ::
 .str (Str.ofString "=5C") 565 ::
 .str (Str.ofString "=5D") 569 ::
 .str (Str.ofString "=5E") 573 ::
 .str (Str.ofString "=5F") 577 ::
 .str (Str.ofString "=60") 581 ::
 .str (Str.ofString "a") 1260 ::
 .str (Str.ofString "b") 1263 ::
 .str (Str.ofString "c") 1266 ::
 .str (Str.ofString "d") 1269 ::
 .str (Str.ofString "e") 1272 ::
 .str (Str.ofString "f") 1275 ::
 .str (Str.ofString "g") 1278 ::
 .str (Str.ofString "h") 1281 ::
 .str (Str.ofString "i") 1284 ::
 .str (Str.ofString "j") 1287 ::
 .str (Str.ofString "k") 1290 ::
 .str (Str.ofString "l") 1293 ::
 .str (Str.ofString "m") 1296 ::
 .str (Str.ofString "n") 1299 ::
 .str (Str.ofString "o") 1302 ::
 .str (Str.ofString "p") 1305 ::
 .str (Str.ofString "q") 1308 ::
 .str (Str.ofString "r") 1311 ::
 .str (Str.ofString "s") 1314 ::
 .str (Str.ofString "t") 1317 ::
 .str (Str.ofString "u") 1320 ::
 .str (Str.ofString "v") 1323 ::
 .str (Str.ofString "w") 1326 ::
 .str (Str.ofString "x") 1329 ::
 .str (Str.ofString "y") 1332 ::
 .str (Str.ofString "z") 1335 ::
 .str (Str.ofString "=7B") 689 ::
 .str (Str.ofString "=7C") 693 ::
 .str (Str.ofString "=7D") 697 ::
 .str (Str.ofString "=7E") 701 ::
 .str (Str.ofString "=7F") 705 ::
 .str (Str.ofString "=80") 709 ::
 .str (Str.ofString "=81") 713 ::
 .str (Str.ofString "=82") 717 ::
 .str (Str.ofString "=83") 721 ::
 .str (Str.ofString "=84") 725 ::
 .str (Str.ofString "=85") 729 ::
 .str (Str.ofString "=86") 733 ::
 .str (Str.ofString "=87") 737 ::
 .str (Str.ofString "=88") 741 ::
 .str (Str.ofString "=89") 745 ::
 .str (Str.ofString "=8A") 749 ::
 .str (Str.ofString "=8B") 753 ::
 .str (Str.ofString "=8C") 757 ::
 .str (Str.ofString "=8D") 761 ::
 .str (Str.ofString "=8E") 765 ::
 .str (Str.ofString "=8F") 769 ::
 .str (Str.ofString "=90") 773 ::
 .str (Str.ofString "=91") 777 ::
 .str (Str.ofString "=92") 781 ::
 .str (Str.ofString "=93") 785 ::
 .str (Str.ofString "=94") 789 ::
 .str (Str.ofString "=95") 793 ::
 .str (Str.ofString "=96") 797 ::
 .str (Str.ofString "=97") 801 ::
 .str (Str.ofString "=98") 805 ::
 .str (Str.ofString "=99") 809 ::
 .str (Str.ofString "=9A") 813 ::
 .str (Str.ofString "=9B") 817 ::
 .str (Str.ofString "=9C") 821 ::
 .str (Str.ofString "=9D") 825 ::
 .str (Str.ofString "=9E") 829 ::
 .str (Str.ofString "=9F") 833 ::
 .str (Str.ofString "=A0") 837 ::
 .str (Str.ofString "=A1") 841 ::
 .str (Str.ofString "=A2") 845 ::
 .str (Str.ofString "=A3") 849 ::
 .str (Str.ofString "=A4") 853 ::
 .str (Str.ofString "=A5") 857 ::
 .str (Str.ofString "=A6") 861 ::
 .str (Str.ofString "=A7") 865 ::
 .str (Str.ofString "=A8") 869 ::
 .str (Str.ofString "=A9") 873 ::
 .str (Str.ofString "=AA") 877 ::
 .str (Str.ofString "=AB") 881 ::
 .str (Str.ofString "=AC") 885 ::
 .str (Str.ofString "=AD") 889 ::
 .str (Str.ofString "=AE") 893 ::
 .str (Str.ofString "=AF") 897 ::
 .str (Str.ofString "=B0") 901 ::
 .str (Str.ofString "=B1") 905 ::
 .str (Str.ofString "=B2") 909 ::
 .str (Str.ofString "=B3") 913 ::
 .str (Str.ofString "=B4") 917 ::
 .str (Str.ofString "=B5") 921 ::
 .str (Str.ofString "=B6") 925 ::
 .str (Str.ofString "=B7") 929 ::
 .str (Str.ofString "=B8") 933 ::
 .str (Str.ofString "=B9") 937 ::
 .str (Str.ofString "=BA") 941 ::
 .str (Str.ofString "=BB") 945 ::
 .str (Str.ofString "=BC") 949 ::
 .str (Str.ofString "=BD") 953 ::
 .str (Str.ofString "=BE") 957 ::
 .str (Str.ofString "=BF") 961 ::
 .str (Str.ofString "=C0") 965 ::
 .str (Str.ofString "=C1") 969 ::
 .str (Str.ofString "=C2") 973 ::
 .str (Str.ofString "=C3") 977 ::
 .str (Str.ofString "=C4") 981 ::
 .str (Str.ofString "=C5") 985 ::
 .str (Str.ofString "=C6") 989 ::
 .str (Str.ofString "=C7") 993 ::
 .str (Str.ofString "=C8") 997 ::
 .str (Str.ofString "=C9") 1001 ::
 .str (Str.ofString "=CA") 1005 ::
 .str (Str.ofString "=CB") 1009 ::
 .str (Str.ofString "=CC") 1013 ::
 .str (Str.ofString "=CD") 1017 ::
 .str (Str.ofString "=CE") 1021 ::
 .str (Str.ofString "=CF") 1025 ::
 .str (Str.ofString "=D0") 1029 ::
 .str (Str.ofString "=D1") 1033 ::
 .str (Str.ofString "=D2") 1037 ::
 .str (Str.ofString "=D3") 1041 ::
 .str (Str.ofString "=D4") 1045 ::
 .str (Str.ofString "=D5") 1049 ::
 .str (Str.ofString "=D6") 1053 ::
 .str (Str.ofString "=D7") 1057 ::
 .str (Str.ofString "=D8") 1061 ::
 .str (Str.ofString "=D9") 1065 ::
 .str (Str.ofString "=DA") 1069 ::
 .str (Str.ofString "=DB") 1073 ::
 .str (Str.ofString "=DC") 1077 ::
 .str (Str.ofString "=DD") 1081 ::
 .str (Str.ofString "=DE") 1085 ::
 .str (Str.ofString "=DF") 1089 ::
 .str (Str.ofString "=E0") 1093 ::
 .str (Str.ofString "=E1") 1097 ::
 .str (Str.ofString "=E2") 1101 ::
 .str (Str.ofString "=E3") 1105 ::
 .str (Str.ofString "=E4") 1109 ::
 .str (Str.ofString "=E5") 1113 ::
 .str (Str.ofString "=E6") 1117 ::
 .str (Str.ofString "=E7") 1121 ::
 .str (Str.ofString "=E8") 1125 ::
 .str (Str.ofString "=E9") 1129 ::
 .str (Str.ofString "=EA") 1133 ::
 .str (Str.ofString "=EB") 1137 ::
 .str (Str.ofString "=EC") 1141 ::
 .str (Str.ofString "=ED") 1145 ::
 .str (Str.ofString "=EE") 1149 ::
 .str (Str.ofString "=EF") 1153 ::
 .str (Str.ofString "=F0") 1157 ::
 .str (Str.ofString "=F1") 1161 ::
 .str (Str.ofString "=F2") 1165 ::
 .str (Str.ofString "=F3") 1169 ::
 .str (Str.ofString "=F4") 1173 ::
 .str (Str.ofString "=F5") 1177 ::
 .str (Str.ofString "=F6") 1181 ::
 .str (Str.ofString "=F7") 1185 ::
 .str (Str.ofString "=F8") 1189 ::
 .str (Str.ofString "=F9") 1193 ::
 .str (Str.ofString "=FA") 1197 ::
 .str (Str.ofString "=FB") 1201 ::
 .str (Str.ofString "=FC") 1205 ::
 .str (Str.ofString "=FD") 1209 ::
 .str (Str.ofString "=FE") 1213 ::
 .str (Str.ofString "=FF") 1217 ::
 [])) 0, #[]⟩) ::
  (nat_lit 24, ⟨.type "list", none, .seq (List.toArray (.str (Str.ofString "=00") 197 ::
 .str (Str.ofString "=01") 201 ::
 .str (Str.ofString "=02") 205 ::
 .str (Str.ofString "=03") 209 ::
 .str (Str.ofString "=04") 213 ::
 .str (Str.ofString "=05") 217 ::
 .str (Str.ofString "=06") 221 ::
 .str (Str.ofString "=07") 225 ::
 .str (Str.ofString "=08") 229 ::
 .str (Str.ofString "\t") 1732 ::
 .str (Str.ofString "=0A") 237 ::
 .str (Str.ofString "=0B") 241 ::
 .str (Str.ofString "=0C") 245 ::
 .str (Str.ofString "=0D") 249 ::
 .str (Str.ofString "=0E") 253 ::
 .str (Str.ofString "=0F") 257 ::
 .str (Str.ofString "=10") 261 ::
 .str (Str.ofString "=11") 265 ::
 .str (Str.ofString "=12") 269 ::
 .str (Str.ofString "=13") 273 ::
 .str (Str.ofString "=14") 277 ::
 .str (Str.ofString "=15") 281 ::
 .str (Str.ofString "=16") 285 ::
 .str (Str.ofString "=17") 289 ::
 .str (Str.ofString "=18") 293 ::
 .str (Str.ofString "=19") 297 ::
 .str (Str.ofString "=1A") 301 ::
 .str (Str.ofString "=1B") 305 ::
 .str (Str.ofString "=1C") 309 ::
 .str (Str.ofString "=1D") 313 ::
 .str (Str.ofString "=1E") 317 ::
 .str (Str.ofString "=1F") 321 ::
 .str (Str.ofString " ") 1450 ::
 .str (Str.ofString "!") 1453 ::
 .str (Str.ofString "\"") 1456 ::
 .str (Str.ofString "#") 1459 ::
 .str (Str.ofString "$") 1462 ::
 .str (Str.ofString "%") 1465 ::
 .str (Str.ofString "&") 1468 ::
 .str (Str.ofString "'") 1471 ::
 .str (Str.ofString "(") 1474 ::
 .str (Str.ofString ")") 1477 ::
 .str (Str.ofString "*") 1480 ::
 .str (Str.ofString "+") 1483 ::
 .str (Str.ofString ",") 1486 ::
 .str (Str.ofString "-") 1489 ::
 .str (Str.ofString ".") 1492 ::
 .str (Str.ofString "/") 1495 ::
 .str (Str.ofString "0") 1498 ::
 .str (Str.ofString "1") 1501 ::
 .str (Str.ofString "2") 1504 ::
 .str (Str.ofString "3") 1507 ::
 .str (Str.ofString "4") 1510 ::
 .str (Str.ofString "5") 1513 ::
 .str (Str.ofString "6") 1516 ::
 .str (Str.ofString "7") 1519 ::
 .str (Str.ofString "8") 1522 ::
 .str (Str.ofString "9") 1525 ::
 .str (Str.ofString ":") 1528 ::
 .str (Str.ofString ";") 1531 ::
 .str (Str.ofString "<") 1534 ::
 .str (Str.ofString "=3D") 441 ::
 .str (Str.ofString ">") 1537 ::
 .str (Str.ofString "?") 1540 ::
 .str (Str.ofString "@") 1543 ::
 .str (Str.ofString "A") 1546 ::
 .str (Str.ofString "B") 1549 ::
 .str (Str.ofString "C") 1552 ::
 .str (Str.ofString "D") 1555 ::
 .str (Str.ofString "E") 1558 ::
 .str (Str.ofString "F") 1561 ::
 .str (Str.ofString "G") 1564 ::
 .str (Str.ofString "H") 1567 ::
 .str (Str.ofString "I") 1570 ::
 .str (Str.ofString "J") 1573 ::
 .str (Str.ofString "K") 1576 ::
 .str (Str.ofString "L") 1579 ::
 .str (Str.ofString "M") 1582 ::
 .str (Str.ofString "N") 1585 ::
 .str (Str.ofString "O") 1588 ::
 .str (Str.ofString "P") 1591 ::
 .str (Str.ofString "Q") 1594 ::
 .str (Str.ofString "R") 1597 ::
 .str (Str.ofString "S") 1600 ::
 .str (Str.ofString "T") 1603 ::
 .str (Str.ofString "U") 1606 ::
 .str (Str.ofString "V") 1609 ::
 .str (Str.ofString "W") 1612 ::
 .str (Str.ofString "X") 1615 ::
 .str (Str.ofString "Y") 1618 ::
 .str (Str.ofString "Z") 1621 ::
 .str (Str.ofString "[") 1624 ::
 .str (Str.ofString "\\") 1627 ::
 .str (Str.ofString "]") 1630 ::
 .str (Str.ofString "^") 1633 ::
 .str (Str.ofString "_") 1636 ::
 .str (Str.ofString "`") 1639 ::
 .str (Str.ofString "a") 1642 ::
 .str (Str.ofString "b") 1645 ::
 .str (Str.ofString "c") 1648 ::
 .str (Str.ofString "d") 1651 ::
 .str (Str.ofString "e") 1654 ::
 .str (Str.ofString "f") 1657 ::
 .str (Str.ofString "g") 1660 ::
 .str (Str.ofString "h") 1663 ::
 .str (Str.ofString "i") 1666 ::
 .str (Str.ofString "j") 1669 ::
 .str (Str.ofString "k") 1672 ::
 .str (Str.ofString "l") 1675 ::
 .str (Str.ofString "m") 1678 ::
 .str (Str.ofString "n") 1681 ::
 .str (Str.ofString "o") 1684 ::
 .str (Str.ofString "p") 1687 ::
 .str (Str.ofString "q") 1690 ::
 .str (Str.ofString "r") 1693 ::
 .str (Str.ofString "s") 1696 ::
 .str (Str.ofString "t") 1699 ::
 .str (Str.ofString "u") 1702 ::
 .str (Str.ofString "v") 1705 ::
 .str (Str.ofString "w") 1708 ::
 .str (Str.ofString "x") 1711 ::
 .str (Str.ofString "y") 1714 ::
 .str (Str.ofString "z") 1717 ::
 .str (Str.ofString "{") 1720 ::
 .str (Str.ofString "|") 1723 ::
 .str (Str.ofString "}") 1726 ::
 .str (Str.ofString "~") 1729 ::
 .str (Str.ofString "=7F") 705 ::
 .str (Str.ofString "=80") 709 ::
 .str (Str.ofString "=81") 713 ::
 .str (Str.ofString "=82") 717 ::
 .str (Str.ofString "=83") 721 ::
 .str (Str.ofString "=84") 725 ::
 .str (Str.ofString "=85") 729 ::
 .str (Str.ofString "=86") 733 ::
 .str (Str.ofString "=87") 737 ::
 .str (Str.ofString "=88") 741 ::
 .str (Str.ofString "=89") 745 ::
 .str (Str.ofString "=8A") 749 ::
 .str (Str.ofString "=8B") 753 ::
 .str (Str.ofString "=8C") 757 ::
 .str (Str.ofString "=8D") 761 ::
 .str (Str.ofString "=8E") 765 ::
 .str (Str.ofString "=8F") 769 ::
 .str (Str.ofString "=90") 773 ::
 .str (Str.ofString "=91") 777 ::
 .str (Str.ofString "=92") 781 ::
 .str (Str.ofString "=93") 785 ::
 .str (Str.ofString "=94") 789 ::
 .str (Str.ofString "=95") 793 ::
 .str (Str.ofString "=96") 797 ::
 .str (Str.ofString "=97") 801 ::
 .str (Str.ofString "=98") 805 ::
 .str (Str.ofString "=99") 809 ::
 .str (Str.ofString "=9A") 813 ::
 .str (Str.ofString "=9B") 817 ::
 .str (Str.ofString "=9C") 821 ::
 .str (Str.ofString "=9D") 825 ::
 .str (Str.ofString "=9E") 829 ::
 .str (Str.ofString "=9F") 833 ::
 .str (Str.ofString "=A0") 837 ::
 .str (Str.ofString "=A1") 841 ::
 .str (Str.ofString "=A2") 845 ::
 .str (Str.ofString "=A3") 849 ::
 .str (Str.ofString "=A4") 853 ::
 .str (Str.ofString "=A5") 857 ::
 .str (Str.ofString "=A6") 861 ::
 .str (Str.ofString "=A7") 865 ::
 .str (Str.ofString "=A8") 869 ::
 .str (Str.ofString "=A9") 873 ::
 .str (Str.ofString "=AA") 877 ::
 .str (Str.ofString "=AB") 881 ::
 .str (Str.ofString "=AC") 885 ::
 .str (Str.ofString "=AD") 889 ::
 .str (Str.ofString "=AE") 893 ::
 .str (Str.ofString "=AF") 897 ::
 .str (Str.ofString "=B0") 901 ::
 .str (Str.ofString "=B1") 905 ::
 .str (Str.ofString "=B2") 909 ::
 .str (Str.ofString "=B3") 913 ::
 .str (Str.ofString "=B4") 917 ::
 .str (Str.ofString "=B5") 921 ::
 .str (Str.ofString "=B6") 925 ::
 .str (Str.ofString "=B7") 929 ::
 .str (Str.ofString "=B8") 933 ::
 .str (Str.ofString "=B9") 937 ::
 .str (Str.ofString "=BA") 941 ::
 .str (Str.ofString "=BB") 945 ::
 .str (Str.ofString "=BC") 949 ::
 .str (Str.ofString "=BD") 953 ::
 .str (Str.ofString "=BE") 957 ::
 .str (Str.ofString "=BF") 961 ::
 .str (Str.ofString "=C0") 965 ::
 .str (Str.ofString "=C1") 969 ::
 .str (Str.ofString "=C2") 973 ::
 .str (Str.ofString "=C3") 977 ::
 .str (Str.ofString "=C4") 981 ::
 .str (Str.ofString "=C5") 985 ::
 .str (Str.ofString "=C6") 989 ::
 .str (Str.ofString "=C7") 993 ::
 .str (Str.ofString "=C8") 997 ::
 .str (Str.ofString "=C9") 1001 ::
 .str (Str.ofString "=CA") 1005 ::
 .str (Str.ofString "=CB") 1009 ::
 .str (Str.ofString "=CC") 1013 ::
 .str (Str.ofString "=CD") 1017 ::
 .str (Str.ofString "=CE") 1021 ::
 .str (Str.ofString "=CF") 1025 ::
 .str (Str.ofString "=D0") 1029 ::
 .str (Str.ofString "=D1") 1033 ::
 .str (Str.ofString "=D2") 1037 ::
 .str (Str.ofString "=D3") 1041 ::
 .str (Str.ofString "=D4") 1045 ::
 .str (Str.ofString "=D5") 1049 ::
 .str (Str.ofString "=D6") 1053 ::
 .str (Str.ofString "=D7") 1057 ::
 .str (Str.ofString "=D8") 1061 ::
 .str (Str.ofString "=D9") 1065 ::
 .str (Str.ofString "=DA") 1069 ::
 .str (Str.ofString "=DB") 1073 ::
 .str (Str.ofString "=DC") 1077 ::
 .str (Str.ofString "=DD") 1081 ::
 .str (Str.ofString "=DE") 1085 ::
 .str (Str.ofString "=DF") 1089 ::
 .str (Str.ofString "=E0") 1093 ::
 .str (Str.ofString "=E1") 1097 ::
 .str (Str.ofString "=E2") 1101 ::
 .str (Str.ofString "=E3") 1105 ::
 .str (Str.ofString "=E4") 1109 ::
 .str (Str.ofString "=E5") 1113 ::
 .str (Str.ofString "=E6") 1117 ::
 .str (Str.ofString "=E7") 1121 ::
 .str (Str.ofString "=E8") 1125 ::
 .str (Str.ofString "=E9") 1129 ::
 .str (Str.ofString "=EA") 1133 ::
 .str (Str.ofString "=EB") 1137 ::
 .str (Str.ofString "=EC") 1141 ::
 .str (Str.ofString "=ED") 1145 ::
 .str (Str.ofString "=EE") 1149 ::
 .str (Str.ofString "=EF") 1153 ::
 .str (Str.ofString "=F0") 1157 ::
 .str (Str.ofString "=F1") 1161 ::
 .str (Str.ofString "=F2") 1165 ::
 .str (Str.ofString "=F3") 1169 ::
 .str (Str.ofString "=F4") 1173 ::
 .str (Str.ofString "=F5") 1177 ::
 .str (Str.ofString "=F6") 1181 ::
 .str (Str.ofString "=F7") 1185 ::
 .str (Str.ofString "=F8") 1189 ::
 .str (Str.ofString "=F9") 1193 ::
 .str (Str.ofString "=FA") 1197 ::
 .str (Str.ofString "=FB") 1201 ::
 .str (Str.ofString "=FC") 1205 ::
 .str (Str.ofString "=FD") 1209 ::
 .str (Str.ofString "=FE") 1213 ::
 .str (Str.ofString "=FF") 1217 ::
 [])) 0, #[]⟩) ::
  (nat_lit 31, ⟨.type "tuple", none, .seq #[] 0, #[]⟩) ::
  (nat_lit 33, ⟨.type "tuple", none, .seq #[.str (Str.ofString "s") 1736] 0, #[]⟩) ::
  (nat_lit 34, ⟨.type "tuple", none, .seq #[] 0, #[]⟩) ::
  (nat_lit 36, ⟨.type "code", none, .fields #[.str (Str.ofString "unquote") 1733, .str (Str.ofString "unquote") 1734, .str (Str.ofString "/claim/cut.py") 1735, .int 17 0, .int 1 0, .int 0 0, .int 0 0, .int 3 0, .ref 31, .bool true, .int 181 0, .ref 32, .none, .ref 33, .ref 34, .ref 35, .int 1737 0, .int 17 0, .str (Str.ofString "/claim/cut.py") 1738], #[]⟩) ::
  (nat_lit 37, hdFn 14 (.type "function") 3 (.none) (.none) (.none) (.str (Str.ofString "cpy313.email.quoprimime") 1234) (.ref 36)) ::
  (nat_lit 38, ⟨.type "tuple", none, .seq #[] 0, #[]⟩) ::
  (nat_lit 40, ⟨.type "tuple", none, .seq #[.str (Str.ofString "c") 1743] 0, #[]⟩) ::
  (nat_lit 41, ⟨.type "tuple", none, .seq #[] 0, #[]⟩) ::
  (nat_lit 43, ⟨.type "code", none, .fields #[.str (Str.ofString "quote") 1740, .str (Str.ofString "quote") 1741, .str (Str.ofString "/claim/cut.py") 1742, .int 19 0, .int 1 0, .int 0 0, .int 0 0, .int 3 0, .ref 38, .bool true, .int 181 0, .ref 39, .none, .ref 40, .ref 41, .ref 42, .int 1744 0, .int 19 0, .str (Str.ofString "/claim/cut.py") 1745], #[]⟩) ::
  (nat_lit 44, hdFn 15 (.type "function") 3 (.none) (.none) (.none) (.str (Str.ofString "cpy313.email.quoprimime") 1234) (.ref 43)) ::
  (nat_lit 46, ⟨.type "list", none, .seq (List.toArray (.str (Str.ofString "=00") 197 ::
 .str (Str.ofString "=01") 201 ::
 .str (Str.ofString "=02") 205 ::
 .str (Str.ofString "=03") 209 ::
 .str (Str.ofString "=04") 213 ::
 .str (Str.ofString "=05") 217 ::
 .str (Str.ofString "=06") 221 ::
 .str (Str.ofString "=07") 225 ::
 .str (Str.ofString "=08") 229 ::
 .str (Str.ofString "\t") 1732 ::
 .str (Str.ofString "\n") 1754 ::
 .str (Str.ofString "=0B") 241 ::
 .str (Str.ofString "=0C") 245 ::
 .str (Str.ofString "\x0d") 1751 ::
 .str (Str.ofString "=0E") 253 ::
 .str (Str.ofString "=0F") 257 ::
 .str (Str.ofString "=10") 261 ::
 .str (Str.ofString "=11") 265 ::
 .str (Str.ofString "=12") 269 ::
 .str (Str.ofString "=13") 273 ::
 .str (Str.ofString "=14") 277 ::
 .str (Str.ofString "=15") 281 ::
 .str (Str.ofString "=16") 285 ::
 .str (Str.ofString "=17") 289 ::
 .str (Str.ofString "=18") 293 ::
 .str (Str.ofString "=19") 297 ::
 .str (Str.ofString "=1A") 301 ::
 .str (Str.ofString "=1B") 305 ::
 .str (Str.ofString "=1C") 309 ::
 .str (Str.ofString "=1D") 313 ::
 .str (Str.ofString "=1E") 317 ::
 .str (Str.ofString "=1F") 321 ::
 .str (Str.ofString " ") 1450 ::
 .str (Str.ofString "!") 1453 ::
 .str (Str.ofString "\"") 1456 ::
 .str (Str.ofString "#") 1459 ::
 .str (Str.ofString "$") 1462 ::
 .str (Str.ofString "%") 1465 ::
 .str (Str.ofString "&") 1468 ::
 .str (Str.ofString "'") 1471 ::
 .str (Str.ofString "(") 1474 ::
 .str (Str.ofString ")") 1477 ::
 .str (Str.ofString "*") 1480 ::
 .str (Str.ofString "+") 1483 ::
 .str (Str.ofString ",") 1486 ::
 .str (Str.ofString "-") 1489 ::
 .str (Str.ofString ".") 1492 ::
 .str (Str.ofString "/") 1495 ::
 .str (Str.ofString "0") 1498 ::
 .str (Str.ofString "1") 1501 ::
 .str (Str.ofString "2") 1504 ::
 .str (Str.ofString "3") 1507 ::
 .str (Str.ofString "4") 1510 ::
 .str (Str.ofString "5") 1513 ::
 .str (Str.ofString "6") 1516 ::
 .str (Str.ofString "7") 1519 ::
 .str (Str.ofString "8") 1522 ::
 .str (Str.ofString "9") 1525 ::
 .str (Str.ofString ":") 1528 ::
 .str (Str.ofString ";") 1531 ::
 .str (Str.ofString "<") 1534 ::
 .str (Str.ofString "=3D") 441 ::
 .str (Str.ofString ">") 1537 ::
 .str (Str.ofString "?") 1540 ::
 .str (Str.ofString "@") 1543 ::
 .str (Str.ofString "A") 1546 ::
 .str (Str.ofString "B") 1549 ::
 .str (Str.ofString "C") 1552 ::
 .str (Str.ofString "D") 1555 ::
 .str (Str.ofString "E") 1558 ::
 .str (Str.ofString "F") 1561 ::
 .str (Str.ofString "G") 1564 ::
 .str (Str.ofString "H") 1567 ::
 .str (Str.ofString "I") 1570 ::
 .str (Str.ofString "J") 1573 ::
 .str (Str.ofString "K") 1576 ::
 .str (Str.ofString "L") 1579 ::
 .str (Str.ofString "M") 1582 ::
 .str (Str.ofString "N") 1585 ::
 .str (Str.ofString "O") 1588 ::
 .str (Str.ofString "P") 1591 ::
 .str (Str.ofString "Q") 1594 ::
 .str (Str.ofString "R") 1597 ::
 .str (Str.ofString "S") 1600 ::
 .str (Str.ofString "T") 1603 ::
 .str (Str.ofString "U") 1606 ::
 .str (Str.ofString "V") 1609 ::
 .str (Str.ofString "W") 1612 ::
 .str (Str.ofString "X") 1615 ::
 .str (Str.ofString "Y") 1618 ::
 .str (Str.ofString "Z") 1621 ::
 .str (Str.ofString "[") 1624 ::
 .str (Str.ofString "\\") 1627 ::
 .str (Str.ofString "]") 1630 ::
 .str (Str.ofString "^") 1633 ::
 .str (Str.ofString "_") 1636 ::
 .str (Str.ofString "`") 1639 ::
 .str (Str.ofString "a") 1642 ::
 .str (Str.ofString "b") 1645 ::
 .str (Str.ofString "c") 1648 ::
 .str (Str.ofString "d") 1651 ::
 .str (Str.ofString "e") 1654 ::
 .str (Str.ofString "f") 1657 ::
 .str (Str.ofString "g") 1660 ::
 .str (Str.ofString "h") 1663 ::
 .str (Str.ofString "i") 1666 ::
 .str (Str.ofString "j") 1669 ::
 .str (Str.ofString "k") 1672 ::
 .str (Str.ofString "l") 1675 ::
 .str (Str.ofString "m") 1678 ::
 .str (Str.ofString "n") 1681 ::
 .str (Str.ofString "o") 1684 ::
 .str (Str.ofString "p") 1687 ::
 .str (Str.ofString "q") 1690 ::
 .str (Str.ofString "r") 1693 ::
 .str (Str.ofString "s") 1696 ::
 .str (Str.ofString "t") 1699 ::
 .str (Str.ofString "u") 1702 ::
 .str (Str.ofString "v") 1705 ::
 .str (Str.ofString "w") 1708 ::
 .str (Str.ofString "x") 1711 ::
 .str (Str.ofString "y") 1714 ::
 .str (Str.ofString "z") 1717 ::
 .str (Str.ofString "{") 1720 ::
 .str (Str.ofString "|") 1723 ::
 .str (Str.ofString "}") 1726 ::
 .str (Str.ofString "~") 1729 ::
 .str (Str.ofString "=7F") 705 ::
 .str (Str.ofString "=80") 709 ::
 .str (Str.ofString "=81") 713 ::
 .str (Str.ofString "=82") 717 ::
 .str (Str.ofString "=83") 721 ::
 .str (Str.ofString "=84") 725 ::
 .str (Str.ofString "=85") 729 ::
 .str (Str.ofString "=86") 733 ::
 .str (Str.ofString "=87") 737 ::
 .str (Str.ofString "=88") 741 ::
 .str (Str.ofString "=89") 745 ::
 .str (Str.ofString "=8A") 749 ::
 .str (Str.ofString "=8B") 753 ::
 .str (Str.ofString "=8C") 757 ::
 .str (Str.ofString "=8D") 761 ::
 .str (Str.ofString "=8E") 765 ::
 .str (Str.ofString "=8F") 769 ::
 .str (Str.ofString "=90") 773 ::
 .str (Str.ofString "=91") 777 ::
 .str (Str.ofString "=92") 781 ::
 .str (Str.ofString "=93") 785 ::
 .str (Str.ofString "=94") 789 ::
 .str (Str.ofString "=95") 793 ::
 .str (Str.ofString "=96") 797 ::
 .str (Str.ofString "=97") 801 ::
 .str (Str.ofString "=98") 805 ::
 .str (Str.ofString "=99") 809 ::
 .str (Str.ofString "=9A") 813 ::
 .str (Str.ofString "=9B") 817 ::
 .str (Str.ofString "=9C") 821 ::
 .str (Str.ofString "=9D") 825 ::
 .str (Str.ofString "=9E") 829 ::
 .str (Str.ofString "=9F") 833 ::
 .str (Str.ofString "=A0") 837 ::
 .str (Str.ofString "=A1") 841 ::
 .str (Str.ofString "=A2") 845 ::
 .str (Str.ofString "=A3") 849 ::
 .str (Str.ofString "=A4") 853 ::
 .str (Str.ofString "=A5") 857 ::
 .str (Str.ofString "=A6") 861 ::
 .str (Str.ofString "=A7") 865 ::
 .str (Str.ofString "=A8") 869 ::
 .str (Str.ofString "=A9") 873 ::
 .str (Str.ofString "=AA") 877 ::
 .str (Str.ofString "=AB") 881 ::
 .str (Str.ofString "=AC") 885 ::
 .str (Str.ofString "=AD") 889 ::
 .str (Str.ofString "=AE") 893 ::
 .str (Str.ofString "=AF") 897 ::
 .str (Str.ofString "=B0") 901 ::
 .str (Str.ofString "=B1") 905 ::
 .str (Str.ofString "=B2") 909 ::
 .str (Str.ofString "=B3") 913 ::
 .str (Str.ofString "=B4") 917 ::
 .str (Str.ofString "=B5") 921 ::
 .str (Str.ofString "=B6") 925 ::
 .str (Str.ofString "=B7") 929 ::
 .str (Str.ofString "=B8") 933 ::
 .str (Str.ofString "=B9") 937 ::
 .str (Str.ofString "=BA") 941 ::
 .str (Str.ofString "=BB") 945 ::
 .str (Str.ofString "=BC") 949 ::
 .str (Str.ofString "=BD") 953 ::
 .str (Str.ofString "=BE") 957 ::
 .str (Str.ofString "=BF") 961 ::
 .str (Str.ofString "=C0") 965 ::
 .str (Str.ofString "=C1") 969 ::
 .str (Str.ofString "=C2") 973 ::
 .str (Str.ofString "=C3") 977 ::
 .str (Str.ofString "=C4") 981 ::
 .str (Str.ofString "=C5") 985 ::
 .str (Str.ofString "=C6") 989 ::
 .str (Str.ofString "=C7") 993 ::
 .str (Str.ofString "=C8") 997 ::
 .str (Str.ofString "=C9") 1001 ::
 .str (Str.ofString "=CA") 1005 ::
 .str (Str.ofString "=CB") 1009 ::
 .str (Str.ofString "=CC") 1013 ::
 .str (Str.ofString "=CD") 1017 ::
 .str (Str.ofString "=CE") 1021 ::
 .str (Str.ofString "=CF") 1025 ::
 .str (Str.ofString "=D0") 1029 ::
 .str (Str.ofString "=D1") 1033 ::
 .str (Str.ofString "=D2") 1037 ::
 .str (Str.ofString "=D3") 1041 ::
 .str (Str.ofString "=D4") 1045 ::
 .str (Str.ofString "=D5") 1049 ::
 .str (Str.ofString "=D6") 1053 ::
 .str (Str.ofString "=D7") 1057 ::
 .str (Str.ofString "=D8") 1061 ::
 .str (Str.ofString "=D9") 1065 ::
 .str (Str.ofString "=DA") 1069 ::
 .str (Str.ofString "=DB") 1073 ::
 .str (Str.ofString "=DC") 1077 ::
 .str (Str.ofString "=DD") 1081 ::
 .str (Str.ofString "=DE") 1085 ::
 .str (Str.ofString "=DF") 1089 ::
 .str (Str.ofString "=E0") 1093 ::
 .str (Str.ofString "=E1") 1097 ::
 .str (Str.ofString "=E2") 1101 ::
 .str (Str.ofString "=E3") 1105 ::
 .str (Str.ofString "=E4") 1109 ::
 .str (Str.ofString "=E5") 1113 ::
 .str (Str.ofString "=E6") 1117 ::
 .str (Str.ofString "=E7") 1121 ::
 .str (Str.ofString "=E8") 1125 ::
 .str (Str.ofString "=E9") 1129 ::
 .str (Str.ofString "=EA") 1133 ::
 .str (Str.ofString "=EB") 1137 ::
 .str (Str.ofString "=EC") 1141 ::
 .str (Str.ofString "=ED") 1145 ::
 .str (Str.ofString "=EE") 1149 ::
 .str (Str.ofString "=EF") 1153 ::
 .str (Str.ofString "=F0") 1157 ::
 .str (Str.ofString "=F1") 1161 ::
 .str (Str.ofString "=F2") 1165 ::
 .str (Str.ofString "=F3") 1169 ::
 .str (Str.ofString "=F4") 1173 ::
 .str (Str.ofString "=F5") 1177 ::
 .str (Str.ofString "=F6") 1181 ::
 .str (Str.ofString "=F7") 1185 ::
 .str (Str.ofString "=F8") 1189 ::
 .str (Str.ofString "=F9") 1193 ::
 .str (Str.ofString "=FA") 1197 ::
 .str (Str.ofString "=FB") 1201 ::
 .str (Str.ofString "=FC") 1205 ::
 .str (Str.ofString "=FD") 1209 ::
 .str (Str.ofString "=FE") 1213 ::
 .str (Str.ofString "=FF") 1217 ::
 [])) 0, #[]⟩) ::
  (nat_lit 50, ⟨.type "tuple", none, .seq #[.int 76 1755, .str (Str.ofString "\n") 189] 0, #[]⟩) ::
  (nat_lit 51, ⟨.type "tuple", none, .seq #[] 0, #[]⟩) ::
  (nat_lit 53, ⟨.type "tuple", none, .seq #[.str (Str.ofString "body") 1759, .str (Str.ofString "maxlinelen") 1760, .str (Str.ofString "eol") 1761, .str (Str.ofString "soft_break") 1762, .str (Str.ofString "maxlinelen1") 1763, .str (Str.ofString "encoded_body") 1764, .str (Str.ofString "append") 1765, .str (Str.ofString "line") 1766, .str (Str.ofString "start") 1767, .str (Str.ofString "laststart") 1768, .str (Str.ofString "stop") 1769, .str (Str.ofString "room") 1770, .str (Str.ofString "q") 1771] 0, #[]⟩) ::
  (nat_lit 54, ⟨.type "tuple", none, .seq #[] 0, #[]⟩) ::
  (nat_lit 56, ⟨.type "code", none, .fields #[.str (Str.ofString "body_encode") 1756, .str (Str.ofString "body_encode") 1757, .str (Str.ofString "/claim/cut.py") 1758, .int 25 0, .int 3 0, .int 0 0, .int 0 0, .int 3 0, .ref 51, .bool true, .int 181 0, .ref 52, .none, .ref 53, .ref 54, .ref 55, .int 1772 0, .int 25 0, .str (Str.ofString "/claim/cut.py") 1773], #[]⟩) ::
  (nat_lit 57, hdFn 19 (.type "function") 3 (.ref 50) (.none) (.none) (.str (Str.ofString "cpy313.email.quoprimime") 1234) (.ref 56)) ::
  (nat_lit 58, ⟨.type "tuple", none, .seq #[.str (Str.ofString "\n") 189] 0, #[]⟩) ::
  (nat_lit 59, ⟨.type "tuple", none, .seq #[] 0, #[]⟩) ::
  (nat_lit 61, ⟨.type "tuple", none, .seq #[.str (Str.ofString "encoded") 1778, .str (Str.ofString "eol") 1779, .str (Str.ofString "decoded") 1780, .str (Str.ofString "line") 1781, .str (Str.ofString "i") 1782, .str (Str.ofString "n") 1783, .str (Str.ofString "c") 1784] 0, #[]⟩) ::
  (nat_lit 62, ⟨.type "tuple", none, .seq #[] 0, #[]⟩) ::
  (nat_lit 64, ⟨.type "code", none, .fields #[.str (Str.ofString "decode") 1775, .str (Str.ofString "decode") 1776, .str (Str.ofString "/claim/cut.py") 1777, .int 63 0, .int 2 0, .int 0 0, .int 0 0, .int 3 0, .ref 59, .bool true, .int 181 0, .ref 60, .none, .ref 61, .ref 62, .ref 63, .int 1785 0, .int 63 0, .str (Str.ofString "/claim/cut.py") 1786], #[]⟩) ::
  (nat_lit 65, hdFn 20 (.type "function") 3 (.ref 58) (.none) (.none) (.str (Str.ofString "cpy313.email.quoprimime") 1234) (.ref 64)) ::
  (nat_lit 66, ⟨.type "tuple", none, .seq #[] 0, #[]⟩) ::
  (nat_lit 68, ⟨.type "tuple", none, .seq #[.str (Str.ofString "iterator") 1793, .str (Str.ofString "b") 1794, .str (Str.ofString "val") 1795] 0, #[]⟩) ::
  (nat_lit 69, ⟨.type "tuple", none, .seq #[] 0, #[]⟩) ::
  (nat_lit 71, ⟨.type "code", none, .fields #[.str (Str.ofString "_parse_varint") 1790, .str (Str.ofString "_parse_varint") 1791, .str (Str.ofString "/claim/cut.py") 1792, .int 94 0, .int 1 0, .int 0 0, .int 0 0, .int 3 0, .ref 66, .bool true, .int 181 0, .ref 67, .none, .ref 68, .ref 69, .ref 70, .int 1796 0, .int 94 0, .str (Str.ofString "/claim/cut.py") 1797], #[]⟩) ::
  (nat_lit 72, hdFn 22 (.type "function") 3 (.none) (.none) (.none) (.str (Str.ofString "cpy313.dis") 1788) (.ref 71)) ::
  (nat_lit 73, ⟨.type "tuple", none, .seq #[] 0, #[]⟩) ::
  (nat_lit 75, ⟨.type "tuple", none, .seq #[.str (Str.ofString "x") 1804, .str (Str.ofString "rest") 1805, .str (Str.ofString "width") 1806, .str (Str.ofString "last") 1807] 0, #[]⟩) ::
  (nat_lit 76, ⟨.type "tuple", none, .seq #[] 0, #[]⟩) ::
  (nat_lit 78, ⟨.type "code", none, .fields #[.str (Str.ofString "_law_item") 1801, .str (Str.ofString "_law_item") 1802, .str (Str.ofString "/claim/cut.py") 1803, .int 103 0, .int 1 0, .int 0 0, .int 0 0, .int 3 0, .ref 73, .bool true, .int 181 0, .ref 74, .none, .ref 75, .ref 76, .ref 77, .int 1808 0, .int 103 0, .str (Str.ofString "/claim/cut.py") 1809], #[]⟩) ::
  (nat_lit 79, hdFn 24 (.type "function") 3 (.none) (.none) (.none) (.str (Str.ofString "law_ny0161_01") 1799) (.ref 78)) ::
  (nat_lit 80, ⟨.type "tuple", none, .seq #[] 0, #[]⟩) ::
  (nat_lit 82, ⟨.type "tuple", none, .seq #[.str (Str.ofString "items") 1814, .str (Str.ofString "signs") 1815, .str (Str.ofString "width") 1816, .str (Str.ofString "number") 1817, .str (Str.ofString "shielded") 1818, .str (Str.ofString "k") 1819] 0, #[]⟩) ::
  (nat_lit 83, ⟨.type "tuple", none, .seq #[] 0, #[]⟩) ::
  (nat_lit 85, ⟨.type "code", none, .fields #[.str (Str.ofString "_law_text") 1811, .str (Str.ofString "_law_text") 1812, .str (Str.ofString "/claim/cut.py") 1813, .int 111 0, .int 1 0, .int 0 0, .int 0 0, .int 3 0, .ref 80, .bool true, .int 181 0, .ref 81, .none, .ref 82, .ref 83, .ref 84, .int 1820 0, .int 111 0, .str (Str.ofString "/claim/cut.py") 1821], #[]⟩) ::
  (nat_lit 86, hdFn 25 (.type "function") 3 (.none) (.none) (.none) (.str (Str.ofString "law_ny0161_01") 1799) (.ref 85)) ::
  (nat_lit 87, ⟨.type "tuple", none, .seq #[] 0, #[]⟩) ::
  (nat_lit 90, ⟨.type "code", none, .fields #[.str (Str.ofString "_law_read") 1823, .str (Str.ofString "_law_read") 1824, .str (Str.ofString "/claim/cut.py") 1825, .int 118 0, .int 1 0, .int 0 0, .int 0 0, .int 3 0, .ref 87, .bool true, .int 181 0, .ref 88, .none, .none, .none, .ref 89, .int 1826 0, .int 118 0, .str (Str.ofString "/claim/cut.py") 1827], #[]⟩) ::
  (nat_lit 91, hdFn 26 (.type "function") 3 (.none) (.none) (.none) (.str (Str.ofString "law_ny0161_01") 1799) (.ref 90)) ::
  (nat_lit 92, ⟨.type "tuple", none, .seq #[] 0, #[]⟩) ::
  (nat_lit 94, ⟨.type "tuple", none, .seq #[.str (Str.ofString "items") 1832, .str (Str.ofString "mark") 1833, .str (Str.ofString "told") 1834, .str (Str.ofString "waits") 1835, .str (Str.ofString "line") 1836, .str (Str.ofString "width") 1837, .str (Str.ofString "number") 1838, .str (Str.ofString "shielded") 1839, .str (Str.ofString "lost") 1840, .str (Str.ofString "sign") 1841] 0, #[]⟩) ::
  (nat_lit 95, ⟨.type "tuple", none, .seq #[] 0, #[]⟩) ::
  (nat_lit 97, ⟨.type "code", none, .fields #[.str (Str.ofString "_law_due") 1829, .str (Str.ofString "_law_due") 1830, .str (Str.ofString "/claim/cut.py") 1831, .int 126 0, .int 2 0, .int 0 0, .int 0 0, .int 3 0, .ref 92, .bool true, .int 181 0, .ref 93, .none, .ref 94, .ref 95, .ref 96, .int 1842 0, .int 126 0, .str (Str.ofString "/claim/cut.py") 1843], #[]⟩) ::
  (nat_lit 98, hdFn 27 (.type "function") 3 (.none) (.none) (.none) (.str (Str.ofString "law_ny0161_01") 1799) (.ref 97)) ::
  (nat_lit 99, ⟨.type "tuple", none, .seq #[] 0, #[]⟩) ::
  (nat_lit 102, ⟨.type "code", none, .fields #[.str (Str.ofString "law") 1845, .str (Str.ofString "law") 1846, .str (Str.ofString "/claim/cut.py") 1847, .int 144 0, .int 1 0, .int 0 0, .int 0 0, .int 3 0, .ref 99, .bool true, .int 181 0, .ref 100, .none, .none, .none, .ref 101, .int 1848 0, .int 144 0, .str (Str.ofString "/claim/cut.py") 1849], #[]⟩) ::
  (nat_lit 103, hdFn 28 (.type "function") 3 (.none) (.none) (.none) (.str (Str.ofString "law_ny0161_01") 1799) (.ref 102)) :: []
abbrev hdAs : List Addr := [2, 3, 6, 17, 22, 24, 31, 33, 34, 36, 37, 38, 40, 41, 43, 44, 46, 50, 51, 53, 54, 56, 57, 58, 59, 61, 62, 64, 65, 66, 68, 69, 71, 72, 73, 75, 76, 78, 79, 80, 82, 83, 85, 86, 87, 90, 91, 92, 94, 95, 97, 98, 99, 102, 103]
noncomputable def hdEnv : Env := { scope := hdProg.main.scope, locals := mainNs, globals := mainNs, cells := [], code := .ref 13, frame := some 14 }
noncomputable abbrev hdB : List Stmt := behindTheImports hdProg
noncomputable abbrev hdC : Code := .body hdB hdEnv
noncomputable abbrev hdF : List Frame := [topFrame ⟨0, 0, 0, 0⟩]
noncomputable abbrev hdSts (i n : Nat) : List Stmt := (hdB.drop i).take n
noncomputable abbrev hdTh (l : List Stmt) (p : Pos) : Thread := ⟨(PySem.W.Fast.tw12563942051412417395 l hdEnv).wrap doneF deadEnd id id, hdC, p, hdF⟩
noncomputable abbrev hdRun (w : World) (n : Nat) (s : SharedT) (t : Thread) := PySem.W.Fast.tw10110043849684766642 PySem.W.Fast.tw14364793385576792824 hdProg w 11 (some (.ref 6)) 1 n s t
noncomputable abbrev hdGo (w : World) (n : Nat) (s : SharedT) (t : Thread) := PySem.W.Fast.tw10295753902157049106 PySem.W.Fast.tw14364793385576792824 hdProg w 11 (some (.ref 6)) 1 n s t
noncomputable abbrev hdRunS (w : World) (n : Nat) (s : Shared) (t : Thread) := segRun treeTable hdProg w 11 (some (.ref 6)) 1 n s t
theorem hdRunEq (w : World) (n : Nat) (s : SharedT) (t : Thread) : hdRun w n s t = segRunT treeTable hdProg w 11 (some (.ref 6)) 1 n s t := by
  rw [PySem.W.Fast.te10110043849684766642, PySem.W.Fast.te14364793385576792824]
theorem hdGoEq (w : World) (n : Nat) (s : SharedT) (t : Thread) : hdGo w n s t = segGoT treeTable hdProg w 11 (some (.ref 6)) 1 n s t := by
  rw [PySem.W.Fast.te10295753902157049106, PySem.W.Fast.te14364793385576792824]
theorem hdThEq (l : List Stmt) (p : Pos) : hdTh l p = piecesOf l hdEnv hdC p hdF := by
  unfold hdTh piecesOf
  rw [PySem.W.Fast.te12563942051412417395]
theorem hdOf {w : World} {n : Nat} {s s' : SharedT} {l : List Stmt} {p q : Pos} {f : Flow} {c : Code} (h : hdRun w n s (hdTh l p) = some (f, s', c, q)) : hdRunS w n s.abs (piecesOf l hdEnv hdC p hdF) = some (f, s'.abs, c, q) := by
  rw [hdRunEq, hdThEq] at h
  exact segRun_of h
theorem hdOfG {w : World} {n : Nat} {s s' : SharedT} {l : List Stmt} {p : Pos} {t : Thread} (h : hdGo w n s (hdTh l p) = some (s', t)) : segGo treeTable hdProg w 11 (some (.ref 6)) 1 n s.abs (piecesOf l hdEnv hdC p hdF) = some (s'.abs, t) := by
  rw [hdGoEq, hdThEq] at h
  exact segGo_of h
theorem hdOfT {w : World} {n : Nat} {s s' : SharedT} {t : Thread} {q : Pos} {f : Flow} {c : Code} (h : hdRun w n s t = some (f, s', c, q)) : hdRunS w n s.abs t = some (f, s'.abs, c, q) := by
  rw [hdRunEq] at h
  exact segRun_of h
noncomputable def hdO11v0 (P : Params) : Obj := ⟨.type "tuple", none, .seq #[] 0, #[]⟩
noncomputable def hdO12v0 (P : Params) : Obj := ⟨.none, none, .fields #[], #[]⟩
noncomputable def hdO13v0 (P : Params) : Obj := ⟨.type "code", none, .fields #[.str (⟨#[60, 109, 111, 100, 117, 108, 101, 62]⟩) 182, .str (⟨#[60, 109, 111, 100, 117, 108, 101, 62]⟩) 183, .str (⟨#[47, 99, 108, 97, 105, 109, 47, 99, 117, 116, 46, 112, 121]⟩) 184, .int 1 0, .int 0 0, .int 0 0, .int 0 0, .int 0 0, .ref 11, .bool false, .int 181 0, .ref 12, .none, .none, .none, .none, .int 185 0, .int 1 0, .str (⟨#[47, 99, 108, 97, 105, 109, 47, 99, 117, 116, 46, 112, 121]⟩) 186], #[]⟩
noncomputable def hdO14v0 (P : Params) : Obj := ⟨.type "frame", none, .plain, #[(some (.ref 13)), (some (.ref 3)), (some (.ref 3)), none, (some (.str (⟨#[95, 95, 109, 97, 105, 110, 95, 95]⟩) 164)), none, (some (.ref 0))]⟩
noncomputable def hdSah (P : Params) : Heap := ⟨List.toArray (PySem.W.boot_o_0 P :: PySem.W.boot_o_1 P :: PySem.W.boot_o_2 P :: PySem.W.boot_o_3 P :: PySem.W.boot_o_4 P :: PySem.W.boot_o_5 P :: PySem.W.boot_o_6 P :: PySem.W.boot_o_7 P :: PySem.W.boot_o_8 P :: PySem.W.boot_o_9 P :: PySem.W.boot_o_10 P :: hdO11v0 P :: hdO12v0 P :: hdO13v0 P :: hdO14v0 P :: []), {}⟩
noncomputable def hdSa (w : World) (os : OsState) : Shared := ⟨hdSah w.params, #[], ⟨0, 0, 0, 0⟩, 187, os⟩
theorem hdPre (w : World) (os : OsState) : topGo treeTable hdProg w 11 (some (.ref 6)) 12 ⟨boot_heap w.params, Array.mk [], boot_drawn, boot_toks, os⟩ (topStub hdProg) = some (hdSa w os, ⟨denote treeTable hdC, hdC, ⟨0, 0, 0, 0⟩, hdF⟩) := by kernel_rfl
noncomputable def hdSt (P : Params) : BT := (.node (PySem.W.boot_o_0 P) (.node (PySem.W.boot_o_1 P) (.node (PySem.W.boot_o_3 P) (.node (PySem.W.boot_o_7 P) .nil .nil) (.node (hdO11v0 P) .nil .nil)) (.node (PySem.W.boot_o_5 P) (.node (PySem.W.boot_o_9 P) .nil .nil) (.node (hdO13v0 P) .nil .nil))) (.node (PySem.W.boot_o_2 P) (.node (PySem.W.boot_o_4 P) (.node (PySem.W.boot_o_8 P) .nil .nil) (.node (hdO12v0 P) .nil .nil)) (.node (PySem.W.boot_o_6 P) (.node (PySem.W.boot_o_10 P) .nil .nil) (.node (hdO14v0 P) .nil .nil))))
noncomputable def hdS (w : World) (os : OsState) : SharedT := ⟨hdSt w.params, 15, {}, #[], ⟨0, 0, 0, 0⟩, 187, os⟩
theorem hdBlock (w : World) (os : OsState) : hdRunS w 1 (hdSa w os) (blockOf hdB hdEnv hdC ⟨0, 0, 0, 0⟩ hdF) = some (.next, (hdS w os).abs, hdC, ⟨0, 0, 0, 0⟩) := by kernel_rfl
noncomputable def hdO3v1 (P : Params) : Obj := ⟨.type "dict", none, .dict #[⟨PyData.keyHash P (⟨#[95, 95, 110, 97, 109, 101, 95, 95]⟩), .str (⟨#[95, 95, 110, 97, 109, 101, 95, 95]⟩) 165, .str (⟨#[95, 95, 109, 97, 105, 110, 95, 95]⟩) 164⟩, ⟨PyData.keyHash P (⟨#[95, 95, 100, 111, 99, 95, 95]⟩), .str (⟨#[95, 95, 100, 111, 99, 95, 95]⟩) 166, .none⟩, ⟨PyData.keyHash P (⟨#[95, 95, 112, 97, 99, 107, 97, 103, 101, 95, 95]⟩), .str (⟨#[95, 95, 112, 97, 99, 107, 97, 103, 101, 95, 95]⟩) 167, .none⟩, ⟨PyData.keyHash P (⟨#[95, 95, 108, 111, 97, 100, 101, 114, 95, 95]⟩), .str (⟨#[95, 95, 108, 111, 97, 100, 101, 114, 95, 95]⟩) 168, .builtin "__main__.__loader__#opaque"⟩, ⟨PyData.keyHash P (⟨#[95, 95, 115, 112, 101, 99, 95, 95]⟩), .str (⟨#[95, 95, 115, 112, 101, 99, 95, 95]⟩) 169, .none⟩, ⟨PyData.keyHash P (⟨#[95, 95, 97, 110, 110, 111, 116, 97, 116, 105, 111, 110, 115, 95, 95]⟩), .str (⟨#[95, 95, 97, 110, 110, 111, 116, 97, 116, 105, 111, 110, 115, 95, 95]⟩) 170, .ref 6⟩, ⟨PyData.keyHash P (⟨#[95, 95, 98, 117, 105, 108, 116, 105, 110, 115, 95, 95]⟩), .str (⟨#[95, 95, 98, 117, 105, 108, 116, 105, 110, 115, 95, 95]⟩) 171, .ref 4⟩, ⟨PyData.keyHash P (⟨#[95, 95, 102, 105, 108, 101, 95, 95]⟩), .str (⟨#[95, 95, 102, 105, 108, 101, 95, 95]⟩) 173, .str (⟨#[47, 99, 108, 97, 105, 109, 47, 99, 117, 116, 46, 112, 121]⟩) 172⟩, ⟨PyData.keyHash P (⟨#[95, 95, 99, 97, 99, 104, 101, 100, 95, 95]⟩), .str (⟨#[95, 95, 99, 97, 99, 104, 101, 100, 95, 95]⟩) 174, .none⟩, ⟨PyData.keyHash P (⟨#[67, 82, 76, 70]⟩), .str (⟨#[67, 82, 76, 70]⟩) 188, .str (⟨#[13, 10]⟩) 187⟩, ⟨PyData.keyHash P (⟨#[78, 76]⟩), .str (⟨#[78, 76]⟩) 190, .str (⟨#[10]⟩) 189⟩] 11, #[]⟩
noncomputable def hdS0t (P : Params) : BT := (.node (PySem.W.boot_o_0 P) (.node (PySem.W.boot_o_1 P) (.node (hdO3v1 P) (.node (PySem.W.boot_o_7 P) .nil .nil) (.node (hdO11v0 P) .nil .nil)) (.node (PySem.W.boot_o_5 P) (.node (PySem.W.boot_o_9 P) .nil .nil) (.node (hdO13v0 P) .nil .nil))) (.node (PySem.W.boot_o_2 P) (.node (PySem.W.boot_o_4 P) (.node (PySem.W.boot_o_8 P) .nil .nil) (.node (hdO12v0 P) .nil .nil)) (.node (PySem.W.boot_o_6 P) (.node (PySem.W.boot_o_10 P) .nil .nil) (.node (hdO14v0 P) .nil .nil))))
noncomputable def hdS0 (w : World) (os : OsState) : SharedT := ⟨hdS0t w.params, 15, {}, #[], ⟨0, 0, 0, 0⟩, 191, os⟩
theorem hdP0 (w : World) (os : OsState) : (hdRun w 19 (hdS w os) (hdTh (hdSts 0 2) ⟨0, 0, 0, 0⟩)) = some (.next, hdS0 w os, hdC, ⟨2, 0, 2, 2⟩) := by kernel_rfl
theorem hdR0 (w : World) (os : OsState) : hdRunS w 19 (hdS w os).abs (piecesOf (hdSts 0 2) hdEnv hdC ⟨0, 0, 0, 0⟩ hdF) = some (.next, (hdS0 w os).abs, hdC, ⟨2, 0, 2, 2⟩) := hdOf (hdP0 w os)
noncomputable def hdO15v0 (P : Params) : Obj := ⟨.type "range", none, .fields #[.int 0 192, .int 256 191, .int 1 193], #[]⟩
noncomputable def hdO16v0 (P : Params) : Obj := ⟨.type "range_iterator", none, .fields #[.int 0 0, .int 256 0, .int 1 0], #[]⟩
noncomputable def hdO17v0 (P : Params) : Obj := ⟨.type "list", none, .seq #[] 0, #[]⟩
noncomputable def hdO18v0 (P : Params) : Obj := ⟨.type "dict", none, .dict #[] 0, #[]⟩
noncomputable def hdS1ct (P : Params) : BT := (.node (PySem.W.boot_o_0 P) (.node (PySem.W.boot_o_1 P) (.node (hdO3v1 P) (.node (PySem.W.boot_o_7 P) (.node (hdO15v0 P) .nil .nil) .nil) (.node (hdO11v0 P) .nil .nil)) (.node (PySem.W.boot_o_5 P) (.node (PySem.W.boot_o_9 P) (.node (hdO17v0 P) .nil .nil) .nil) (.node (hdO13v0 P) .nil .nil))) (.node (PySem.W.boot_o_2 P) (.node (PySem.W.boot_o_4 P) (.node (PySem.W.boot_o_8 P) (.node (hdO16v0 P) .nil .nil) .nil) (.node (hdO12v0 P) .nil .nil)) (.node (PySem.W.boot_o_6 P) (.node (PySem.W.boot_o_10 P) (.node (hdO18v0 P) .nil .nil) .nil) (.node (hdO14v0 P) .nil .nil))))
noncomputable def hdS1c (w : World) (os : OsState) : SharedT := ⟨hdS1ct w.params, 19, {}, #[], ⟨0, 0, 0, 0⟩, 194, os⟩
noncomputable def hdT1 (w : World) (os : OsState) : Thread := ((hdGo ((w.withFollow "comprehension-iter-twice" false).withFollow "special-get-raises" false) 60 (hdS0 ((w.withFollow "comprehension-iter-twice" false).withFollow "special-get-raises" false) os) (hdTh (hdSts 2 1) ⟨2, 0, 2, 2⟩)).getD (hdS0 ((w.withFollow "comprehension-iter-twice" false).withFollow "special-get-raises" false) os, (hdTh (hdSts 2 1) ⟨2, 0, 2, 2⟩))).2
theorem hdC1ff (w : World) (os : OsState) : hdGo ((w.withFollow "comprehension-iter-twice" false).withFollow "special-get-raises" false) 60 (hdS0 ((w.withFollow "comprehension-iter-twice" false).withFollow "special-get-raises" false) os) (hdTh (hdSts 2 1) ⟨2, 0, 2, 2⟩) = some (hdS1c ((w.withFollow "comprehension-iter-twice" false).withFollow "special-get-raises" false) os, hdT1 ((w.withFollow "comprehension-iter-twice" false).withFollow "special-get-raises" false) os) := by kernel_rfl
theorem hdC1ft (w : World) (os : OsState) : hdGo ((w.withFollow "comprehension-iter-twice" false).withFollow "special-get-raises" true) 60 (hdS0 ((w.withFollow "comprehension-iter-twice" false).withFollow "special-get-raises" true) os) (hdTh (hdSts 2 1) ⟨2, 0, 2, 2⟩) = some (hdS1c ((w.withFollow "comprehension-iter-twice" false).withFollow "special-get-raises" true) os, hdT1 ((w.withFollow "comprehension-iter-twice" false).withFollow "special-get-raises" true) os) := by kernel_rfl
theorem hdC1tf (w : World) (os : OsState) : hdGo ((w.withFollow "comprehension-iter-twice" true).withFollow "special-get-raises" false) 50 (hdS0 ((w.withFollow "comprehension-iter-twice" true).withFollow "special-get-raises" false) os) (hdTh (hdSts 2 1) ⟨2, 0, 2, 2⟩) = some (hdS1c ((w.withFollow "comprehension-iter-twice" true).withFollow "special-get-raises" false) os, hdT1 ((w.withFollow "comprehension-iter-twice" true).withFollow "special-get-raises" false) os) := by kernel_rfl
theorem hdC1tt (w : World) (os : OsState) : hdGo ((w.withFollow "comprehension-iter-twice" true).withFollow "special-get-raises" true) 50 (hdS0 ((w.withFollow "comprehension-iter-twice" true).withFollow "special-get-raises" true) os) (hdTh (hdSts 2 1) ⟨2, 0, 2, 2⟩) = some (hdS1c ((w.withFollow "comprehension-iter-twice" true).withFollow "special-get-raises" true) os, hdT1 ((w.withFollow "comprehension-iter-twice" true).withFollow "special-get-raises" true) os) := by kernel_rfl
noncomputable def hdO3v2 (P : Params) : Obj := ⟨.type "dict", none, .dict #[⟨PyData.keyHash P (⟨#[95, 95, 110, 97, 109, 101, 95, 95]⟩), .str (⟨#[95, 95, 110, 97, 109, 101, 95, 95]⟩) 165, .str (⟨#[95, 95, 109, 97, 105, 110, 95, 95]⟩) 164⟩, ⟨PyData.keyHash P (⟨#[95, 95, 100, 111, 99, 95, 95]⟩), .str (⟨#[95, 95, 100, 111, 99, 95, 95]⟩) 166, .none⟩, ⟨PyData.keyHash P (⟨#[95, 95, 112, 97, 99, 107, 97, 103, 101, 95, 95]⟩), .str (⟨#[95, 95, 112, 97, 99, 107, 97, 103, 101, 95, 95]⟩) 167, .none⟩, ⟨PyData.keyHash P (⟨#[95, 95, 108, 111, 97, 100, 101, 114, 95, 95]⟩), .str (⟨#[95, 95, 108, 111, 97, 100, 101, 114, 95, 95]⟩) 168, .builtin "__main__.__loader__#opaque"⟩, ⟨PyData.keyHash P (⟨#[95, 95, 115, 112, 101, 99, 95, 95]⟩), .str (⟨#[95, 95, 115, 112, 101, 99, 95, 95]⟩) 169, .none⟩, ⟨PyData.keyHash P (⟨#[95, 95, 97, 110, 110, 111, 116, 97, 116, 105, 111, 110, 115, 95, 95]⟩), .str (⟨#[95, 95, 97, 110, 110, 111, 116, 97, 116, 105, 111, 110, 115, 95, 95]⟩) 170, .ref 6⟩, ⟨PyData.keyHash P (⟨#[95, 95, 98, 117, 105, 108, 116, 105, 110, 115, 95, 95]⟩), .str (⟨#[95, 95, 98, 117, 105, 108, 116, 105, 110, 115, 95, 95]⟩) 171, .ref 4⟩, ⟨PyData.keyHash P (⟨#[95, 95, 102, 105, 108, 101, 95, 95]⟩), .str (⟨#[95, 95, 102, 105, 108, 101, 95, 95]⟩) 173, .str (⟨#[47, 99, 108, 97, 105, 109, 47, 99, 117, 116, 46, 112, 121]⟩) 172⟩, ⟨PyData.keyHash P (⟨#[95, 95, 99, 97, 99, 104, 101, 100, 95, 95]⟩), .str (⟨#[95, 95, 99, 97, 99, 104, 101, 100, 95, 95]⟩) 174, .none⟩, ⟨PyData.keyHash P (⟨#[67, 82, 76, 70]⟩), .str (⟨#[67, 82, 76, 70]⟩) 188, .str (⟨#[13, 10]⟩) 187⟩, ⟨PyData.keyHash P (⟨#[78, 76]⟩), .str (⟨#[78, 76]⟩) 190, .str (⟨#[10]⟩) 189⟩, ⟨PyData.keyHash P (⟨#[95, 81, 85, 79, 80, 82, 73, 95, 77, 65, 80]⟩), .str (⟨#[95, 81, 85, 79, 80, 82, 73, 95, 77, 65, 80]⟩) 1218, .ref 17⟩] 12, #[]⟩
noncomputable def hdO15v1 (P : Params) : Obj := ⟨.type "range", none, .fields #[.int 0 192, .int 256 191, .int 1 193], #[]⟩
noncomputable def hdO16v1 (P : Params) : Obj := ⟨.type "range_iterator", none, .fields #[.int 256 0, .int 0 0, .int 1 0], #[]⟩
noncomputable def hdO17v1 (P : Params) : Obj := ⟨.type "list", none, .seq (List.toArray (.str (⟨#[61, 48, 48]⟩) 197 ::
 .str (⟨#[61, 48, 49]⟩) 201 ::
 .str (⟨#[61, 48, 50]⟩) 205 ::
 .str (⟨#[61, 48, 51]⟩) 209 ::
 .str (⟨#[61, 48, 52]⟩) 213 ::
 .str (⟨#[61, 48, 53]⟩) 217 ::
 .str (⟨#[61, 48, 54]⟩) 221 ::
 .str (⟨#[61, 48, 55]⟩) 225 ::
 .str (⟨#[61, 48, 56]⟩) 229 ::
 .str (⟨#[61, 48, 57]⟩) 233 ::
 .str (⟨#[61, 48, 65]⟩) 237 ::
 .str (⟨#[61, 48, 66]⟩) 241 ::
 .str (⟨#[61, 48, 67]⟩) 245 ::
 .str (⟨#[61, 48, 68]⟩) 249 ::
 .str (⟨#[61, 48, 69]⟩) 253 ::
 .str (⟨#[61, 48, 70]⟩) 257 ::
 .str (⟨#[61, 49, 48]⟩) 261 ::
 .str (⟨#[61, 49, 49]⟩) 265 ::
 .str (⟨#[61, 49, 50]⟩) 269 ::
 .str (⟨#[61, 49, 51]⟩) 273 ::
 .str (⟨#[61, 49, 52]⟩) 277 ::
 .str (⟨#[61, 49, 53]⟩) 281 ::
 .str (⟨#[61, 49, 54]⟩) 285 ::
 .str (⟨#[61, 49, 55]⟩) 289 ::
 .str (⟨#[61, 49, 56]⟩) 293 ::
 .str (⟨#[61, 49, 57]⟩) 297 ::
 .str (⟨#[61, 49, 65]⟩) 301 ::
 .str (⟨#[61, 49, 66]⟩) 305 ::
 .str (⟨#[61, 49, 67]⟩) 309 ::
 .str (⟨#[61, 49, 68]⟩) 313 ::
 .str (⟨#[61, 49, 69]⟩) 317 ::
 .str (⟨#[61, 49, 70]⟩) 321 ::
 .str (⟨#[61, 50, 48]⟩) 325 ::
 .str (⟨#[61, 50, 49]⟩) 329 ::
 .str (⟨#[61, 50, 50]⟩) 333 ::
 .str (⟨#[61, 50, 51]⟩) 337 ::
 .str (⟨#[61, 50, 52]⟩) 341 ::
 .str (⟨#[61, 50, 53]⟩) 345 ::
 .str (⟨#[61, 50, 54]⟩) 349 ::
 .str (⟨#[61, 50, 55]⟩) 353 ::
 .str (⟨#[61, 50, 56]⟩) 357 ::
 .str (⟨#[61, 50, 57]⟩) 361 ::
 .str (⟨#[61, 50, 65]⟩) 365 ::
 .str (⟨#[61, 50, 66]⟩) 369 ::
 .str (⟨#[61, 50, 67]⟩) 373 ::
 .str (⟨#[61, 50, 68]⟩) 377 ::
 .str (⟨#[61, 50, 69]⟩) 381 ::
 .str (⟨#[61, 50, 70]⟩) 385 ::
 .str (⟨#[61, 51, 48]⟩) 389 ::
 .str (⟨#[61, 51, 49]⟩) 393 ::
 .str (⟨#[61, 51, 50]⟩) 397 ::
 .str (⟨#[61, 51, 51]⟩) 401 ::
 .str (⟨#[61, 51, 52]⟩) 405 ::
 .str (⟨#[61, 51, 53]⟩) 409 ::
 .str (⟨#[61, 51, 54]⟩) 413 ::
 .str (⟨#[61, 51, 55]⟩) 417 ::
 .str (⟨#[61, 51, 56]⟩) 421 ::
 .str (⟨#[61, 51, 57]⟩) 425 ::
 .str (⟨#[61, 51, 65]⟩) 429 ::
 .str (⟨#[61, 51, 66]⟩) 433 ::
 .str (⟨#[61, 51, 67]⟩) 437 ::
 .str (⟨#[61, 51, 68]⟩) 441 ::
 .str (⟨#[61, 51, 69]⟩) 445 ::
 .str (⟨#[61, 51, 70]⟩) 449 ::
 .str (⟨#[61, 52, 48]⟩) 453 ::
 .str (⟨#[61, 52, 49]⟩) 457 ::
 .str (⟨#[61, 52, 50]⟩) 461 ::
 .str (⟨#[61, 52, 51]⟩) 465 ::
 .str (⟨#[61, 52, 52]⟩) 469 ::
 .str (⟨#[61, 52, 53]⟩) 473 ::
 .str (⟨#[61, 52, 54]⟩) 477 ::
 .str (⟨#[61, 52, 55]⟩) 481 ::
 .str (⟨#[61, 52, 56]⟩) 485 ::
 .str (⟨#[61, 52, 57]⟩) 489 ::
 .str (⟨#[61, 52, 65]⟩) 493 ::
 .str (⟨#[61, 52, 66]⟩) 497 ::
 .str (⟨#[61, 52, 67]⟩) 501 ::
 .str (⟨#[61, 52, 68]⟩) 505 ::
 .str (⟨#[61, 52, 69]⟩) 509 ::
 .str (⟨#[61, 52, 70]⟩) 513 ::
 .str (⟨#[61, 53, 48]⟩) 517 ::
 .str (⟨#[61, 53, 49]⟩) 521 ::
 .str (⟨#[61, 53, 50]⟩) 525 ::
 .str (⟨#[61, 53, 51]⟩) 529 ::
 .str (⟨#[61, 53, 52]⟩) 533 ::
 .str (⟨#[61, 53, 53]⟩) 537 ::
 .str (⟨#[61, 53, 54]⟩) 541 ::
 .str (⟨#[61, 53, 55]⟩) 545 ::
 .str (⟨#[61, 53, 56]⟩) 549 ::
 .str (⟨#[61, 53, 57]⟩) 553 ::
 .str (⟨#[61, 53, 65]⟩) 557 ::
 .str (⟨#[61, 53, 66]⟩) 561 ::
 .str (⟨#[61, 53, 67]⟩) 565 ::
 .str (⟨#[61, 53, 68]⟩) 569 ::
 .str (⟨#[61, 53, 69]⟩) 573 ::
 .str (⟨#[61, 53, 70]⟩) 577 ::
 .str (⟨#[61, 54, 48]⟩) 581 ::
 .str (⟨#[61, 54, 49]⟩) 585 ::
 .str (⟨#[61, 54, 50]⟩) 589 ::
 .str (⟨#[61, 54, 51]⟩) 593 ::
 .str (⟨#[61, 54, 52]⟩) 597 ::
 .str (⟨#[61, 54, 53]⟩) 601 ::
 .str (⟨#[61, 54, 54]⟩) 605 ::
 .str (⟨#[61, 54, 55]⟩) 609 ::
 .str (⟨#[61, 54, 56]⟩) 613 ::
 .str (⟨#[61, 54, 57]⟩) 617 ::
 .str (⟨#[61, 54, 65]⟩) 621 ::
 .str (⟨#[61, 54, 66]⟩) 625 ::
 .str (⟨#[61, 54, 67]⟩) 629 ::
 .str (⟨#[61, 54, 68]⟩) 633 ::
 .str (⟨#[61, 54, 69]⟩) 637 ::
 .str (⟨#[61, 54, 70]⟩) 641 ::
 .str (⟨#[61, 55, 48]⟩) 645 ::
 .str (⟨#[61, 55, 49]⟩) 649 ::
 .str (⟨#[61, 55, 50]⟩) 653 ::
 .str (⟨#[61, 55, 51]⟩) 657 ::
 .str (⟨#[61, 55, 52]⟩) 661 ::
 .str (⟨#[61, 55, 53]⟩) 665 ::
 .str (⟨#[61, 55, 54]⟩) 669 ::
 .str (⟨#[61, 55, 55]⟩) 673 ::
 .str (⟨#[61, 55, 56]⟩) 677 ::
 .str (⟨#[61, 55, 57]⟩) 681 ::
 .str (⟨#[61, 55, 65]⟩) 685 ::
 .str (⟨#[61, 55, 66]⟩) 689 ::
 .str (⟨#[61, 55, 67]⟩) 693 ::
 .str (⟨#[61, 55, 68]⟩) 697 ::
 .str (⟨#[61, 55, 69]⟩) 701 ::
 .str (⟨#[61, 55, 70]⟩) 705 ::
 .str (⟨#[61, 56, 48]⟩) 709 ::
 .str (⟨#[61, 56, 49]⟩) 713 ::
 .str (⟨#[61, 56, 50]⟩) 717 ::
 .str (⟨#[61, 56, 51]⟩) 721 ::
 .str (⟨#[61, 56, 52]⟩) 725 ::
 .str (⟨#[61, 56, 53]⟩) 729 ::
 .str (⟨#[61, 56, 54]⟩) 733 ::
 .str (⟨#[61, 56, 55]⟩) 737 ::
 .str (⟨#[61, 56, 56]⟩) 741 ::
 .str (⟨#[61, 56, 57]⟩) 745 ::
 .str (⟨#[61, 56, 65]⟩) 749 ::
 .str (⟨#[61, 56, 66]⟩) 753 ::
 .str (⟨#[61, 56, 67]⟩) 757 ::
 .str (⟨#[61, 56, 68]⟩) 761 ::
 .str (⟨#[61, 56, 69]⟩) 765 ::
 .str (⟨#[61, 56, 70]⟩) 769 ::
 .str (⟨#[61, 57, 48]⟩) 773 ::
 .str (⟨#[61, 57, 49]⟩) 777 ::
 .str (⟨#[61, 57, 50]⟩) 781 ::
 .str (⟨#[61, 57, 51]⟩) 785 ::
 .str (⟨#[61, 57, 52]⟩) 789 ::
 .str (⟨#[61, 57, 53]⟩) 793 ::
 .str (⟨#[61, 57, 54]⟩) 797 ::
 .str (⟨#[61, 57, 55]⟩) 801 ::
 .str (⟨#[61, 57, 56]⟩) 805 ::
 .str (⟨#[61, 57, 57]⟩) 809 ::
 .str (⟨#[61, 57, 65]⟩) 813 ::
 .str (⟨#[61, 57, 66]⟩) 817 ::
 .str (⟨#[61, 57, 67]⟩) 821 ::
 .str (⟨#[61, 57, 68]⟩) 825 ::
 .str (⟨#[61, 57, 69]⟩) 829 ::
 .str (⟨#[61, 57, 70]⟩) 833 ::
 .str (⟨#[61, 65, 48]⟩) 837 ::
 .str (⟨#[61, 65, 49]⟩) 841 ::
 .str (⟨#[61, 65, 50]⟩) 845 ::
 .str (⟨#[61, 65, 51]⟩) 849 ::
 .str (⟨#[61, 65, 52]⟩) 853 ::
 .str (⟨#[61, 65, 53]⟩) 857 ::
 .str (⟨#[61, 65, 54]⟩) 861 ::
 .str (⟨#[61, 65, 55]⟩) 865 ::
 .str (⟨#[61, 65, 56]⟩) 869 ::
 .str (⟨#[61, 65, 57]⟩) 873 ::
 .str (⟨#[61, 65, 65]⟩) 877 ::
 .str (⟨#[61, 65, 66]⟩) 881 ::
 .str (⟨#[61, 65, 67]⟩) 885 ::
 .str (⟨#[61, 65, 68]⟩) 889 ::
 .str (⟨#[61, 65, 69]⟩) 893 ::
 .str (⟨#[61, 65, 70]⟩) 897 ::
 .str (⟨#[61, 66, 48]⟩) 901 ::
 .str (⟨#[61, 66, 49]⟩) 905 ::
 .str (⟨#[61, 66, 50]⟩) 909 ::
 .str (⟨#[61, 66, 51]⟩) 913 ::
 .str (⟨#[61, 66, 52]⟩) 917 ::
 .str (⟨#[61, 66, 53]⟩) 921 ::
 .str (⟨#[61, 66, 54]⟩) 925 ::
 .str (⟨#[61, 66, 55]⟩) 929 ::
 .str (⟨#[61, 66, 56]⟩) 933 ::
 .str (⟨#[61, 66, 57]⟩) 937 ::
 .str (⟨#[61, 66, 65]⟩) 941 ::
 .str (⟨#[61, 66, 66]⟩) 945 ::
 .str (⟨#[61, 66, 67]⟩) 949 ::
 .str (⟨#[61, 66, 68]⟩) 953 ::
 .str (⟨#[61, 66, 69]⟩) 957 ::
 .str (⟨#[61, 66, 70]⟩) 961 ::
 .str (⟨#[61, 67, 48]⟩) 965 ::
 .str (⟨#[61, 67, 49]⟩) 969 ::
 .str (⟨#[61, 67, 50]⟩) 973 ::
 .str (⟨#[61, 67, 51]⟩) 977 ::
 .str (⟨#[61, 67, 52]⟩) 981 ::
 .str (⟨#[61, 67, 53]⟩) 985 ::
 .str (⟨#[61, 67, 54]⟩) 989 ::
 .str (⟨#[61, 67, 55]⟩) 993 ::
 .str (⟨#[61, 67, 56]⟩) 997 ::
 .str (⟨#[61, 67, 57]⟩) 1001 ::
 .str (⟨#[61, 67, 65]⟩) 1005 ::
 .str (⟨#[61, 67, 66]⟩) 1009 ::
 .str (⟨#[61, 67, 67]⟩) 1013 ::
 .str (⟨#[61, 67, 68]⟩) 1017 ::
 .str (⟨#[61, 67, 69]⟩) 1021 ::
 .str (⟨#[61, 67, 70]⟩) 1025 ::
 .str (⟨#[61, 68, 48]⟩) 1029 ::
 .str (⟨#[61, 68, 49]⟩) 1033 ::
 .str (⟨#[61, 68, 50]⟩) 1037 ::
 .str (⟨#[61, 68, 51]⟩) 1041 ::
 .str (⟨#[61, 68, 52]⟩) 1045 ::
 .str (⟨#[61, 68, 53]⟩) 1049 ::
 .str (⟨#[61, 68, 54]⟩) 1053 ::
 .str (⟨#[61, 68, 55]⟩) 1057 ::
 .str (⟨#[61, 68, 56]⟩) 1061 ::
 .str (⟨#[61, 68, 57]⟩) 1065 ::
 .str (⟨#[61, 68, 65]⟩) 1069 ::
 .str (⟨#[61, 68, 66]⟩) 1073 ::
 .str (⟨#[61, 68, 67]⟩) 1077 ::
 .str (⟨#[61, 68, 68]⟩) 1081 ::
 .str (⟨#[61, 68, 69]⟩) 1085 ::
 .str (⟨#[61, 68, 70]⟩) 1089 ::
 .str (⟨#[61, 69, 48]⟩) 1093 ::
 .str (⟨#[61, 69, 49]⟩) 1097 ::
 .str (⟨#[61, 69, 50]⟩) 1101 ::
 .str (⟨#[61, 69, 51]⟩) 1105 ::
 .str (⟨#[61, 69, 52]⟩) 1109 ::
 .str (⟨#[61, 69, 53]⟩) 1113 ::
 .str (⟨#[61, 69, 54]⟩) 1117 ::
 .str (⟨#[61, 69, 55]⟩) 1121 ::
 .str (⟨#[61, 69, 56]⟩) 1125 ::
 .str (⟨#[61, 69, 57]⟩) 1129 ::
 .str (⟨#[61, 69, 65]⟩) 1133 ::
 .str (⟨#[61, 69, 66]⟩) 1137 ::
 .str (⟨#[61, 69, 67]⟩) 1141 ::
 .str (⟨#[61, 69, 68]⟩) 1145 ::
 .str (⟨#[61, 69, 69]⟩) 1149 ::
 .str (⟨#[61, 69, 70]⟩) 1153 ::
 .str (⟨#[61, 70, 48]⟩) 1157 ::
 .str (⟨#[61, 70, 49]⟩) 1161 ::
 .str (⟨#[61, 70, 50]⟩) 1165 ::
 .str (⟨#[61, 70, 51]⟩) 1169 ::
 .str (⟨#[61, 70, 52]⟩) 1173 ::
 .str (⟨#[61, 70, 53]⟩) 1177 ::
 .str (⟨#[61, 70, 54]⟩) 1181 ::
 .str (⟨#[61, 70, 55]⟩) 1185 ::
 .str (⟨#[61, 70, 56]⟩) 1189 ::
 .str (⟨#[61, 70, 57]⟩) 1193 ::
 .str (⟨#[61, 70, 65]⟩) 1197 ::
 .str (⟨#[61, 70, 66]⟩) 1201 ::
 .str (⟨#[61, 70, 67]⟩) 1205 ::
 .str (⟨#[61, 70, 68]⟩) 1209 ::
 .str (⟨#[61, 70, 69]⟩) 1213 ::
 .str (⟨#[61, 70, 70]⟩) 1217 ::
 [])) 256, #[]⟩
noncomputable def hdO18v1 (P : Params) : Obj := ⟨.type "dict", none, .dict #[] 2, #[]⟩
noncomputable def hdO19v0 (P : Params) : Obj := ⟨.type "tuple", none, .seq #[] 0, #[]⟩
noncomputable def hdO20v0 (P : Params) : Obj := ⟨.type "StopIteration", none, .fields #[.ref 19, .none, .none, .none, .bool false, .none], #[]⟩
noncomputable def hdS1t (P : Params) : BT := (.node (PySem.W.boot_o_0 P) (.node (PySem.W.boot_o_1 P) (.node (hdO3v2 P) (.node (PySem.W.boot_o_7 P) (.node (hdO15v1 P) .nil .nil) .nil) (.node (hdO11v0 P) (.node (hdO19v0 P) .nil .nil) .nil)) (.node (PySem.W.boot_o_5 P) (.node (PySem.W.boot_o_9 P) (.node (hdO17v1 P) .nil .nil) .nil) (.node (hdO13v0 P) .nil .nil))) (.node (PySem.W.boot_o_2 P) (.node (PySem.W.boot_o_4 P) (.node (PySem.W.boot_o_8 P) (.node (hdO16v1 P) .nil .nil) .nil) (.node (hdO12v0 P) (.node (hdO20v0 P) .nil .nil) .nil)) (.node (PySem.W.boot_o_6 P) (.node (PySem.W.boot_o_10 P) (.node (hdO18v1 P) .nil .nil) .nil) (.node (hdO14v0 P) .nil .nil))))
noncomputable def hdS1 (w : World) (os : OsState) : SharedT := ⟨hdS1t w.params, 21, {}, #[], ⟨0, 0, 0, 0⟩, 1219, os⟩
theorem hdL1 (w : World) (os : OsState) : hdRun w 9492 (hdS1c w os) (hdT1 w os) = some (.next, hdS1 w os, hdC, ⟨3, 0, 3, 11⟩) := by kernel_rfl
theorem hdR1ff (w : World) (os : OsState) : hdRunS ((w.withFollow "comprehension-iter-twice" false).withFollow "special-get-raises" false) 9552 (hdS0 ((w.withFollow "comprehension-iter-twice" false).withFollow "special-get-raises" false) os).abs (piecesOf (hdSts 2 1) hdEnv hdC ⟨2, 0, 2, 2⟩ hdF) = some (.next, (hdS1 ((w.withFollow "comprehension-iter-twice" false).withFollow "special-get-raises" false) os).abs, hdC, ⟨3, 0, 3, 11⟩) := hdMono (n := 60 + 9492) (by decide) (seg_go (hdOfG (hdC1ff w os)) (hdOfT (hdL1 ((w.withFollow "comprehension-iter-twice" false).withFollow "special-get-raises" false) os)))
theorem hdR1ft (w : World) (os : OsState) : hdRunS ((w.withFollow "comprehension-iter-twice" false).withFollow "special-get-raises" true) 9552 (hdS0 ((w.withFollow "comprehension-iter-twice" false).withFollow "special-get-raises" true) os).abs (piecesOf (hdSts 2 1) hdEnv hdC ⟨2, 0, 2, 2⟩ hdF) = some (.next, (hdS1 ((w.withFollow "comprehension-iter-twice" false).withFollow "special-get-raises" true) os).abs, hdC, ⟨3, 0, 3, 11⟩) := hdMono (n := 60 + 9492) (by decide) (seg_go (hdOfG (hdC1ft w os)) (hdOfT (hdL1 ((w.withFollow "comprehension-iter-twice" false).withFollow "special-get-raises" true) os)))
theorem hdR1tf (w : World) (os : OsState) : hdRunS ((w.withFollow "comprehension-iter-twice" true).withFollow "special-get-raises" false) 9552 (hdS0 ((w.withFollow "comprehension-iter-twice" true).withFollow "special-get-raises" false) os).abs (piecesOf (hdSts 2 1) hdEnv hdC ⟨2, 0, 2, 2⟩ hdF) = some (.next, (hdS1 ((w.withFollow "comprehension-iter-twice" true).withFollow "special-get-raises" false) os).abs, hdC, ⟨3, 0, 3, 11⟩) := hdMono (n := 50 + 9492) (by decide) (seg_go (hdOfG (hdC1tf w os)) (hdOfT (hdL1 ((w.withFollow "comprehension-iter-twice" true).withFollow "special-get-raises" false) os)))
theorem hdR1tt (w : World) (os : OsState) : hdRunS ((w.withFollow "comprehension-iter-twice" true).withFollow "special-get-raises" true) 9552 (hdS0 ((w.withFollow "comprehension-iter-twice" true).withFollow "special-get-raises" true) os).abs (piecesOf (hdSts 2 1) hdEnv hdC ⟨2, 0, 2, 2⟩ hdF) = some (.next, (hdS1 ((w.withFollow "comprehension-iter-twice" true).withFollow "special-get-raises" true) os).abs, hdC, ⟨3, 0, 3, 11⟩) := hdMono (n := 50 + 9492) (by decide) (seg_go (hdOfG (hdC1tt w os)) (hdOfT (hdL1 ((w.withFollow "comprehension-iter-twice" true).withFollow "special-get-raises" true) os)))
theorem hdR1 (w : World) (os : OsState) : hdRunS w 9552 (hdS0 w os).abs (piecesOf (hdSts 2 1) hdEnv hdC ⟨2, 0, 2, 2⟩ hdF) = some (.next, (hdS1 w os).abs, hdC, ⟨3, 0, 3, 11⟩) := hdBy "comprehension-iter-twice" (P := fun w => hdRunS w 9552 (hdS0 w os).abs (piecesOf (hdSts 2 1) hdEnv hdC ⟨2, 0, 2, 2⟩ hdF) = some (.next, (hdS1 w os).abs, hdC, ⟨3, 0, 3, 11⟩)) (hdBy "special-get-raises" (P := fun w => hdRunS w 9552 (hdS0 w os).abs (piecesOf (hdSts 2 1) hdEnv hdC ⟨2, 0, 2, 2⟩ hdF) = some (.next, (hdS1 w os).abs, hdC, ⟨3, 0, 3, 11⟩)) (hdR1ff w os) (hdR1ft w os)) (hdBy "special-get-raises" (P := fun w => hdRunS w 9552 (hdS0 w os).abs (piecesOf (hdSts 2 1) hdEnv hdC ⟨2, 0, 2, 2⟩ hdF) = some (.next, (hdS1 w os).abs, hdC, ⟨3, 0, 3, 11⟩)) (hdR1tf w os) (hdR1tt w os))
noncomputable def hdO3v3 (P : Params) : Obj := ⟨.type "dict", none, .dict #[⟨PyData.keyHash P (⟨#[95, 95, 110, 97, 109, 101, 95, 95]⟩), .str (⟨#[95, 95, 110, 97, 109, 101, 95, 95]⟩) 165, .str (⟨#[99, 112, 121, 51, 49, 51, 46, 101, 109, 97, 105, 108, 46, 113, 117, 111, 112, 114, 105, 109, 105, 109, 101]⟩) 1234⟩, ⟨PyData.keyHash P (⟨#[95, 95, 100, 111, 99, 95, 95]⟩), .str (⟨#[95, 95, 100, 111, 99, 95, 95]⟩) 166, .none⟩, ⟨PyData.keyHash P (⟨#[95, 95, 112, 97, 99, 107, 97, 103, 101, 95, 95]⟩), .str (⟨#[95, 95, 112, 97, 99, 107, 97, 103, 101, 95, 95]⟩) 167, .none⟩, ⟨PyData.keyHash P (⟨#[95, 95, 108, 111, 97, 100, 101, 114, 95, 95]⟩), .str (⟨#[95, 95, 108, 111, 97, 100, 101, 114, 95, 95]⟩) 168, .builtin "__main__.__loader__#opaque"⟩, ⟨PyData.keyHash P (⟨#[95, 95, 115, 112, 101, 99, 95, 95]⟩), .str (⟨#[95, 95, 115, 112, 101, 99, 95, 95]⟩) 169, .none⟩, ⟨PyData.keyHash P (⟨#[95, 95, 97, 110, 110, 111, 116, 97, 116, 105, 111, 110, 115, 95, 95]⟩), .str (⟨#[95, 95, 97, 110, 110, 111, 116, 97, 116, 105, 111, 110, 115, 95, 95]⟩) 170, .ref 6⟩, ⟨PyData.keyHash P (⟨#[95, 95, 98, 117, 105, 108, 116, 105, 110, 115, 95, 95]⟩), .str (⟨#[95, 95, 98, 117, 105, 108, 116, 105, 110, 115, 95, 95]⟩) 171, .ref 4⟩, ⟨PyData.keyHash P (⟨#[95, 95, 102, 105, 108, 101, 95, 95]⟩), .str (⟨#[95, 95, 102, 105, 108, 101, 95, 95]⟩) 173, .str (⟨#[47, 99, 108, 97, 105, 109, 47, 99, 117, 116, 46, 112, 121]⟩) 172⟩, ⟨PyData.keyHash P (⟨#[95, 95, 99, 97, 99, 104, 101, 100, 95, 95]⟩), .str (⟨#[95, 95, 99, 97, 99, 104, 101, 100, 95, 95]⟩) 174, .none⟩, ⟨PyData.keyHash P (⟨#[67, 82, 76, 70]⟩), .str (⟨#[67, 82, 76, 70]⟩) 188, .str (⟨#[13, 10]⟩) 187⟩, ⟨PyData.keyHash P (⟨#[78, 76]⟩), .str (⟨#[78, 76]⟩) 190, .str (⟨#[10]⟩) 189⟩, ⟨PyData.keyHash P (⟨#[95, 81, 85, 79, 80, 82, 73, 95, 77, 65, 80]⟩), .str (⟨#[95, 81, 85, 79, 80, 82, 73, 95, 77, 65, 80]⟩) 1218, .ref 17⟩, ⟨PyData.keyHash P (⟨#[95, 81, 85, 79, 80, 82, 73, 95, 72, 69, 65, 68, 69, 82, 95, 77, 65, 80]⟩), .str (⟨#[95, 81, 85, 79, 80, 82, 73, 95, 72, 69, 65, 68, 69, 82, 95, 77, 65, 80]⟩) 1219, .ref 22⟩, ⟨PyData.keyHash P (⟨#[95, 81, 85, 79, 80, 82, 73, 95, 66, 79, 68, 89, 95, 77, 65, 80]⟩), .str (⟨#[95, 81, 85, 79, 80, 82, 73, 95, 66, 79, 68, 89, 95, 77, 65, 80]⟩) 1220, .ref 24⟩, ⟨PyData.keyHash P (⟨#[97, 115, 99, 105, 105, 95, 108, 111, 119, 101, 114, 99, 97, 115, 101]⟩), .str (⟨#[97, 115, 99, 105, 105, 95, 108, 111, 119, 101, 114, 99, 97, 115, 101]⟩) 1222, .str (⟨#[97, 98, 99, 100, 101, 102, 103, 104, 105, 106, 107, 108, 109, 110, 111, 112, 113, 114, 115, 116, 117, 118, 119, 120, 121, 122]⟩) 1221⟩, ⟨PyData.keyHash P (⟨#[97, 115, 99, 105, 105, 95, 117, 112, 112, 101, 114, 99, 97, 115, 101]⟩), .str (⟨#[97, 115, 99, 105, 105, 95, 117, 112, 112, 101, 114, 99, 97, 115, 101]⟩) 1224, .str (⟨#[65, 66, 67, 68, 69, 70, 71, 72, 73, 74, 75, 76, 77, 78, 79, 80, 81, 82, 83, 84, 85, 86, 87, 88, 89, 90]⟩) 1223⟩, ⟨PyData.keyHash P (⟨#[97, 115, 99, 105, 105, 95, 108, 101, 116, 116, 101, 114, 115]⟩), .str (⟨#[97, 115, 99, 105, 105, 95, 108, 101, 116, 116, 101, 114, 115]⟩) 1226, .str (⟨#[97, 98, 99, 100, 101, 102, 103, 104, 105, 106, 107, 108, 109, 110, 111, 112, 113, 114, 115, 116, 117, 118, 119, 120, 121, 122, 65, 66, 67, 68, 69, 70, 71, 72, 73, 74, 75, 76, 77, 78, 79, 80, 81, 82, 83, 84, 85, 86, 87, 88, 89, 90]⟩) 1225⟩, ⟨PyData.keyHash P (⟨#[100, 105, 103, 105, 116, 115]⟩), .str (⟨#[100, 105, 103, 105, 116, 115]⟩) 1228, .str (⟨#[48, 49, 50, 51, 52, 53, 54, 55, 56, 57]⟩) 1227⟩, ⟨PyData.keyHash P (⟨#[104, 101, 120, 100, 105, 103, 105, 116, 115]⟩), .str (⟨#[104, 101, 120, 100, 105, 103, 105, 116, 115]⟩) 1233, .str (⟨#[48, 49, 50, 51, 52, 53, 54, 55, 56, 57, 97, 98, 99, 100, 101, 102, 65, 66, 67, 68, 69, 70]⟩) 1232⟩] 19, #[]⟩
noncomputable def hdO21v0 (P : Params) : Obj := ⟨.type "slice", none, .fields #[.none, .none, .none], #[]⟩
noncomputable def hdO22v0 (P : Params) : Obj := ⟨.type "list", none, .seq (List.toArray (.str (⟨#[61, 48, 48]⟩) 197 ::
 .str (⟨#[61, 48, 49]⟩) 201 ::
 .str (⟨#[61, 48, 50]⟩) 205 ::
 .str (⟨#[61, 48, 51]⟩) 209 ::
 .str (⟨#[61, 48, 52]⟩) 213 ::
 .str (⟨#[61, 48, 53]⟩) 217 ::
 .str (⟨#[61, 48, 54]⟩) 221 ::
 .str (⟨#[61, 48, 55]⟩) 225 ::
 .str (⟨#[61, 48, 56]⟩) 229 ::
 .str (⟨#[61, 48, 57]⟩) 233 ::
 .str (⟨#[61, 48, 65]⟩) 237 ::
 .str (⟨#[61, 48, 66]⟩) 241 ::
 .str (⟨#[61, 48, 67]⟩) 245 ::
 .str (⟨#[61, 48, 68]⟩) 249 ::
 .str (⟨#[61, 48, 69]⟩) 253 ::
 .str (⟨#[61, 48, 70]⟩) 257 ::
 .str (⟨#[61, 49, 48]⟩) 261 ::
 .str (⟨#[61, 49, 49]⟩) 265 ::
 .str (⟨#[61, 49, 50]⟩) 269 ::
 .str (⟨#[61, 49, 51]⟩) 273 ::
 .str (⟨#[61, 49, 52]⟩) 277 ::
 .str (⟨#[61, 49, 53]⟩) 281 ::
 .str (⟨#[61, 49, 54]⟩) 285 ::
 .str (⟨#[61, 49, 55]⟩) 289 ::
 .str (⟨#[61, 49, 56]⟩) 293 ::
 .str (⟨#[61, 49, 57]⟩) 297 ::
 .str (⟨#[61, 49, 65]⟩) 301 ::
 .str (⟨#[61, 49, 66]⟩) 305 ::
 .str (⟨#[61, 49, 67]⟩) 309 ::
 .str (⟨#[61, 49, 68]⟩) 313 ::
 .str (⟨#[61, 49, 69]⟩) 317 ::
 .str (⟨#[61, 49, 70]⟩) 321 ::
 .str (⟨#[61, 50, 48]⟩) 325 ::
 .str (⟨#[61, 50, 49]⟩) 329 ::
 .str (⟨#[61, 50, 50]⟩) 333 ::
 .str (⟨#[61, 50, 51]⟩) 337 ::
 .str (⟨#[61, 50, 52]⟩) 341 ::
 .str (⟨#[61, 50, 53]⟩) 345 ::
 .str (⟨#[61, 50, 54]⟩) 349 ::
 .str (⟨#[61, 50, 55]⟩) 353 ::
 .str (⟨#[61, 50, 56]⟩) 357 ::
 .str (⟨#[61, 50, 57]⟩) 361 ::
 .str (⟨#[61, 50, 65]⟩) 365 ::
 .str (⟨#[61, 50, 66]⟩) 369 ::
 .str (⟨#[61, 50, 67]⟩) 373 ::
 .str (⟨#[61, 50, 68]⟩) 377 ::
 .str (⟨#[61, 50, 69]⟩) 381 ::
 .str (⟨#[61, 50, 70]⟩) 385 ::
 .str (⟨#[61, 51, 48]⟩) 389 ::
 .str (⟨#[61, 51, 49]⟩) 393 ::
 .str (⟨#[61, 51, 50]⟩) 397 ::
 .str (⟨#[61, 51, 51]⟩) 401 ::
 .str (⟨#[61, 51, 52]⟩) 405 ::
 .str (⟨#[61, 51, 53]⟩) 409 ::
 .str (⟨#[61, 51, 54]⟩) 413 ::
 .str (⟨#[61, 51, 55]⟩) 417 ::
 .str (⟨#[61, 51, 56]⟩) 421 ::
 .str (⟨#[61, 51, 57]⟩) 425 ::
 .str (⟨#[61, 51, 65]⟩) 429 ::
 .str (⟨#[61, 51, 66]⟩) 433 ::
 .str (⟨#[61, 51, 67]⟩) 437 ::
 .str (⟨#[61, 51, 68]⟩) 441 ::
 .str (⟨#[61, 51, 69]⟩) 445 ::
 .str (⟨#[61, 51, 70]⟩) 449 ::
 .str (⟨#[61, 52, 48]⟩) 453 ::
 .str (⟨#[61, 52, 49]⟩) 457 ::
 .str (⟨#[61, 52, 50]⟩) 461 ::
 .str (⟨#[61, 52, 51]⟩) 465 ::
 .str (⟨#[61, 52, 52]⟩) 469 ::
 .str (⟨#[61, 52, 53]⟩) 473 ::
 .str (⟨#[61, 52, 54]⟩) 477 ::
 .str (⟨#[61, 52, 55]⟩) 481 ::
 .str (⟨#[61, 52, 56]⟩) 485 ::
 .str (⟨#[61, 52, 57]⟩) 489 ::
 .str (⟨#[61, 52, 65]⟩) 493 ::
 .str (⟨#[61, 52, 66]⟩) 497 ::
 .str (⟨#[61, 52, 67]⟩) 501 ::
 .str (⟨#[61, 52, 68]⟩) 505 ::
 .str (⟨#[61, 52, 69]⟩) 509 ::
 .str (⟨#[61, 52, 70]⟩) 513 ::
 .str (⟨#[61, 53, 48]⟩) 517 ::
 .str (⟨#[61, 53, 49]⟩) 521 ::
 .str (⟨#[61, 53, 50]⟩) 525 ::
 .str (⟨#[61, 53, 51]⟩) 529 ::
 .str (⟨#[61, 53, 52]⟩) 533 ::
 .str (⟨#[61, 53, 53]⟩) 537 ::
 .str (⟨#[61, 53, 54]⟩) 541 ::
 .str (⟨#[61, 53, 55]⟩) 545 ::
 .str (⟨#[61, 53, 56]⟩) 549 ::
 .str (⟨#[61, 53, 57]⟩) 553 ::
 .str (⟨#[61, 53, 65]⟩) 557 ::
 .str (⟨#[61, 53, 66]⟩) 561 ::
 .str (⟨#[61, 53, 67]⟩) 565 ::
 .str (⟨#[61, 53, 68]⟩) 569 ::
 .str (⟨#[61, 53, 69]⟩) 573 ::
 .str (⟨#[61, 53, 70]⟩) 577 ::
 .str (⟨#[61, 54, 48]⟩) 581 ::
 .str (⟨#[61, 54, 49]⟩) 585 ::
 .str (⟨#[61, 54, 50]⟩) 589 ::
 .str (⟨#[61, 54, 51]⟩) 593 ::
 .str (⟨#[61, 54, 52]⟩) 597 ::
 .str (⟨#[61, 54, 53]⟩) 601 ::
 .str (⟨#[61, 54, 54]⟩) 605 ::
 .str (⟨#[61, 54, 55]⟩) 609 ::
 .str (⟨#[61, 54, 56]⟩) 613 ::
 .str (⟨#[61, 54, 57]⟩) 617 ::
 .str (⟨#[61, 54, 65]⟩) 621 ::
 .str (⟨#[61, 54, 66]⟩) 625 ::
 .str (⟨#[61, 54, 67]⟩) 629 ::
 .str (⟨#[61, 54, 68]⟩) 633 ::
 .str (⟨#[61, 54, 69]⟩) 637 ::
 .str (⟨#[61, 54, 70]⟩) 641 ::
 .str (⟨#[61, 55, 48]⟩) 645 ::
 .str (⟨#[61, 55, 49]⟩) 649 ::
 .str (⟨#[61, 55, 50]⟩) 653 ::
 .str (⟨#[61, 55, 51]⟩) 657 ::
 .str (⟨#[61, 55, 52]⟩) 661 ::
 .str (⟨#[61, 55, 53]⟩) 665 ::
 .str (⟨#[61, 55, 54]⟩) 669 ::
 .str (⟨#[61, 55, 55]⟩) 673 ::
 .str (⟨#[61, 55, 56]⟩) 677 ::
 .str (⟨#[61, 55, 57]⟩) 681 ::
 .str (⟨#[61, 55, 65]⟩) 685 ::
 .str (⟨#[61, 55, 66]⟩) 689 ::
 .str (⟨#[61, 55, 67]⟩) 693 ::
 .str (⟨#[61, 55, 68]⟩) 697 ::
 .str (⟨#[61, 55, 69]⟩) 701 ::
 .str (⟨#[61, 55, 70]⟩) 705 ::
 .str (⟨#[61, 56, 48]⟩) 709 ::
 .str (⟨#[61, 56, 49]⟩) 713 ::
 .str (⟨#[61, 56, 50]⟩) 717 ::
 .str (⟨#[61, 56, 51]⟩) 721 ::
 .str (⟨#[61, 56, 52]⟩) 725 ::
 .str (⟨#[61, 56, 53]⟩) 729 ::
 .str (⟨#[61, 56, 54]⟩) 733 ::
 .str (⟨#[61, 56, 55]⟩) 737 ::
 .str (⟨#[61, 56, 56]⟩) 741 ::
 .str (⟨#[61, 56, 57]⟩) 745 ::
 .str (⟨#[61, 56, 65]⟩) 749 ::
 .str (⟨#[61, 56, 66]⟩) 753 ::
 .str (⟨#[61, 56, 67]⟩) 757 ::
 .str (⟨#[61, 56, 68]⟩) 761 ::
 .str (⟨#[61, 56, 69]⟩) 765 ::
 .str (⟨#[61, 56, 70]⟩) 769 ::
 .str (⟨#[61, 57, 48]⟩) 773 ::
 .str (⟨#[61, 57, 49]⟩) 777 ::
 .str (⟨#[61, 57, 50]⟩) 781 ::
 .str (⟨#[61, 57, 51]⟩) 785 ::
 .str (⟨#[61, 57, 52]⟩) 789 ::
 .str (⟨#[61, 57, 53]⟩) 793 ::
 .str (⟨#[61, 57, 54]⟩) 797 ::
 .str (⟨#[61, 57, 55]⟩) 801 ::
 .str (⟨#[61, 57, 56]⟩) 805 ::
 .str (⟨#[61, 57, 57]⟩) 809 ::
 .str (⟨#[61, 57, 65]⟩) 813 ::
 .str (⟨#[61, 57, 66]⟩) 817 ::
 .str (⟨#[61, 57, 67]⟩) 821 ::
 .str (⟨#[61, 57, 68]⟩) 825 ::
 .str (⟨#[61, 57, 69]⟩) 829 ::
 .str (⟨#[61, 57, 70]⟩) 833 ::
 .str (⟨#[61, 65, 48]⟩) 837 ::
 .str (⟨#[61, 65, 49]⟩) 841 ::
 .str (⟨#[61, 65, 50]⟩) 845 ::
 .str (⟨#[61, 65, 51]⟩) 849 ::
 .str (⟨#[61, 65, 52]⟩) 853 ::
 .str (⟨#[61, 65, 53]⟩) 857 ::
 .str (⟨#[61, 65, 54]⟩) 861 ::
 .str (⟨#[61, 65, 55]⟩) 865 ::
 .str (⟨#[61, 65, 56]⟩) 869 ::
 .str (⟨#[61, 65, 57]⟩) 873 ::
 .str (⟨#[61, 65, 65]⟩) 877 ::
 .str (⟨#[61, 65, 66]⟩) 881 ::
 .str (⟨#[61, 65, 67]⟩) 885 ::
 .str (⟨#[61, 65, 68]⟩) 889 ::
 .str (⟨#[61, 65, 69]⟩) 893 ::
 .str (⟨#[61, 65, 70]⟩) 897 ::
 .str (⟨#[61, 66, 48]⟩) 901 ::
 .str (⟨#[61, 66, 49]⟩) 905 ::
 .str (⟨#[61, 66, 50]⟩) 909 ::
 .str (⟨#[61, 66, 51]⟩) 913 ::
 .str (⟨#[61, 66, 52]⟩) 917 ::
 .str (⟨#[61, 66, 53]⟩) 921 ::
 .str (⟨#[61, 66, 54]⟩) 925 ::
 .str (⟨#[61, 66, 55]⟩) 929 ::
 .str (⟨#[61, 66, 56]⟩) 933 ::
 .str (⟨#[61, 66, 57]⟩) 937 ::
 .str (⟨#[61, 66, 65]⟩) 941 ::
 .str (⟨#[61, 66, 66]⟩) 945 ::
 .str (⟨#[61, 66, 67]⟩) 949 ::
 .str (⟨#[61, 66, 68]⟩) 953 ::
 .str (⟨#[61, 66, 69]⟩) 957 ::
 .str (⟨#[61, 66, 70]⟩) 961 ::
 .str (⟨#[61, 67, 48]⟩) 965 ::
 .str (⟨#[61, 67, 49]⟩) 969 ::
 .str (⟨#[61, 67, 50]⟩) 973 ::
 .str (⟨#[61, 67, 51]⟩) 977 ::
 .str (⟨#[61, 67, 52]⟩) 981 ::
 .str (⟨#[61, 67, 53]⟩) 985 ::
 .str (⟨#[61, 67, 54]⟩) 989 ::
 .str (⟨#[61, 67, 55]⟩) 993 ::
 .str (⟨#[61, 67, 56]⟩) 997 ::
 .str (⟨#[61, 67, 57]⟩) 1001 ::
 .str (⟨#[61, 67, 65]⟩) 1005 ::
 .str (⟨#[61, 67, 66]⟩) 1009 ::
 .str (⟨#[61, 67, 67]⟩) 1013 ::
 .str (⟨#[61, 67, 68]⟩) 1017 ::
 .str (⟨#[61, 67, 69]⟩) 1021 ::
 .str (⟨#[61, 67, 70]⟩) 1025 ::
 .str (⟨#[61, 68, 48]⟩) 1029 ::
 .str (⟨#[61, 68, 49]⟩) 1033 ::
 .str (⟨#[61, 68, 50]⟩) 1037 ::
 .str (⟨#[61, 68, 51]⟩) 1041 ::
 .str (⟨#[61, 68, 52]⟩) 1045 ::
 .str (⟨#[61, 68, 53]⟩) 1049 ::
 .str (⟨#[61, 68, 54]⟩) 1053 ::
 .str (⟨#[61, 68, 55]⟩) 1057 ::
 .str (⟨#[61, 68, 56]⟩) 1061 ::
 .str (⟨#[61, 68, 57]⟩) 1065 ::
 .str (⟨#[61, 68, 65]⟩) 1069 ::
 .str (⟨#[61, 68, 66]⟩) 1073 ::
 .str (⟨#[61, 68, 67]⟩) 1077 ::
 .str (⟨#[61, 68, 68]⟩) 1081 ::
 .str (⟨#[61, 68, 69]⟩) 1085 ::
 .str (⟨#[61, 68, 70]⟩) 1089 ::
 .str (⟨#[61, 69, 48]⟩) 1093 ::
 .str (⟨#[61, 69, 49]⟩) 1097 ::
 .str (⟨#[61, 69, 50]⟩) 1101 ::
 .str (⟨#[61, 69, 51]⟩) 1105 ::
 .str (⟨#[61, 69, 52]⟩) 1109 ::
 .str (⟨#[61, 69, 53]⟩) 1113 ::
 .str (⟨#[61, 69, 54]⟩) 1117 ::
 .str (⟨#[61, 69, 55]⟩) 1121 ::
 .str (⟨#[61, 69, 56]⟩) 1125 ::
 .str (⟨#[61, 69, 57]⟩) 1129 ::
 .str (⟨#[61, 69, 65]⟩) 1133 ::
 .str (⟨#[61, 69, 66]⟩) 1137 ::
 .str (⟨#[61, 69, 67]⟩) 1141 ::
 .str (⟨#[61, 69, 68]⟩) 1145 ::
 .str (⟨#[61, 69, 69]⟩) 1149 ::
 .str (⟨#[61, 69, 70]⟩) 1153 ::
 .str (⟨#[61, 70, 48]⟩) 1157 ::
 .str (⟨#[61, 70, 49]⟩) 1161 ::
 .str (⟨#[61, 70, 50]⟩) 1165 ::
 .str (⟨#[61, 70, 51]⟩) 1169 ::
 .str (⟨#[61, 70, 52]⟩) 1173 ::
 .str (⟨#[61, 70, 53]⟩) 1177 ::
 .str (⟨#[61, 70, 54]⟩) 1181 ::
 .str (⟨#[61, 70, 55]⟩) 1185 ::
 .str (⟨#[61, 70, 56]⟩) 1189 ::
 .str (⟨#[61, 70, 57]⟩) 1193 ::
 .str (⟨#[61, 70, 65]⟩) 1197 ::
 .str (⟨#[61, 70, 66]⟩) 1201 ::
 .str (⟨#[61, 70, 67]⟩) 1205 ::
 .str (⟨#[61, 70, 68]⟩) 1209 ::
 .str (⟨#[61, 70, 69]⟩) 1213 ::
 .str (⟨#[61, 70, 70]⟩) 1217 ::
 [])) 0, #[]⟩
noncomputable def hdO23v0 (P : Params) : Obj := ⟨.type "slice", none, .fields #[.none, .none, .none], #[]⟩
noncomputable def hdO24v0 (P : Params) : Obj := ⟨.type "list", none, .seq (List.toArray (.str (⟨#[61, 48, 48]⟩) 197 ::
 .str (⟨#[61, 48, 49]⟩) 201 ::
 .str (⟨#[61, 48, 50]⟩) 205 ::
 .str (⟨#[61, 48, 51]⟩) 209 ::
 .str (⟨#[61, 48, 52]⟩) 213 ::
 .str (⟨#[61, 48, 53]⟩) 217 ::
 .str (⟨#[61, 48, 54]⟩) 221 ::
 .str (⟨#[61, 48, 55]⟩) 225 ::
 .str (⟨#[61, 48, 56]⟩) 229 ::
 .str (⟨#[61, 48, 57]⟩) 233 ::
 .str (⟨#[61, 48, 65]⟩) 237 ::
 .str (⟨#[61, 48, 66]⟩) 241 ::
 .str (⟨#[61, 48, 67]⟩) 245 ::
 .str (⟨#[61, 48, 68]⟩) 249 ::
 .str (⟨#[61, 48, 69]⟩) 253 ::
 .str (⟨#[61, 48, 70]⟩) 257 ::
 .str (⟨#[61, 49, 48]⟩) 261 ::
 .str (⟨#[61, 49, 49]⟩) 265 ::
 .str (⟨#[61, 49, 50]⟩) 269 ::
 .str (⟨#[61, 49, 51]⟩) 273 ::
 .str (⟨#[61, 49, 52]⟩) 277 ::
 .str (⟨#[61, 49, 53]⟩) 281 ::
 .str (⟨#[61, 49, 54]⟩) 285 ::
 .str (⟨#[61, 49, 55]⟩) 289 ::
 .str (⟨#[61, 49, 56]⟩) 293 ::
 .str (⟨#[61, 49, 57]⟩) 297 ::
 .str (⟨#[61, 49, 65]⟩) 301 ::
 .str (⟨#[61, 49, 66]⟩) 305 ::
 .str (⟨#[61, 49, 67]⟩) 309 ::
 .str (⟨#[61, 49, 68]⟩) 313 ::
 .str (⟨#[61, 49, 69]⟩) 317 ::
 .str (⟨#[61, 49, 70]⟩) 321 ::
 .str (⟨#[61, 50, 48]⟩) 325 ::
 .str (⟨#[61, 50, 49]⟩) 329 ::
 .str (⟨#[61, 50, 50]⟩) 333 ::
 .str (⟨#[61, 50, 51]⟩) 337 ::
 .str (⟨#[61, 50, 52]⟩) 341 ::
 .str (⟨#[61, 50, 53]⟩) 345 ::
 .str (⟨#[61, 50, 54]⟩) 349 ::
 .str (⟨#[61, 50, 55]⟩) 353 ::
 .str (⟨#[61, 50, 56]⟩) 357 ::
 .str (⟨#[61, 50, 57]⟩) 361 ::
 .str (⟨#[61, 50, 65]⟩) 365 ::
 .str (⟨#[61, 50, 66]⟩) 369 ::
 .str (⟨#[61, 50, 67]⟩) 373 ::
 .str (⟨#[61, 50, 68]⟩) 377 ::
 .str (⟨#[61, 50, 69]⟩) 381 ::
 .str (⟨#[61, 50, 70]⟩) 385 ::
 .str (⟨#[61, 51, 48]⟩) 389 ::
 .str (⟨#[61, 51, 49]⟩) 393 ::
 .str (⟨#[61, 51, 50]⟩) 397 ::
 .str (⟨#[61, 51, 51]⟩) 401 ::
 .str (⟨#[61, 51, 52]⟩) 405 ::
 .str (⟨#[61, 51, 53]⟩) 409 ::
 .str (⟨#[61, 51, 54]⟩) 413 ::
 .str (⟨#[61, 51, 55]⟩) 417 ::
 .str (⟨#[61, 51, 56]⟩) 421 ::
 .str (⟨#[61, 51, 57]⟩) 425 ::
 .str (⟨#[61, 51, 65]⟩) 429 ::
 .str (⟨#[61, 51, 66]⟩) 433 ::
 .str (⟨#[61, 51, 67]⟩) 437 ::
 .str (⟨#[61, 51, 68]⟩) 441 ::
 .str (⟨#[61, 51, 69]⟩) 445 ::
 .str (⟨#[61, 51, 70]⟩) 449 ::
 .str (⟨#[61, 52, 48]⟩) 453 ::
 .str (⟨#[61, 52, 49]⟩) 457 ::
 .str (⟨#[61, 52, 50]⟩) 461 ::
 .str (⟨#[61, 52, 51]⟩) 465 ::
 .str (⟨#[61, 52, 52]⟩) 469 ::
 .str (⟨#[61, 52, 53]⟩) 473 ::
 .str (⟨#[61, 52, 54]⟩) 477 ::
 .str (⟨#[61, 52, 55]⟩) 481 ::
 .str (⟨#[61, 52, 56]⟩) 485 ::
 .str (⟨#[61, 52, 57]⟩) 489 ::
 .str (⟨#[61, 52, 65]⟩) 493 ::
 .str (⟨#[61, 52, 66]⟩) 497 ::
 .str (⟨#[61, 52, 67]⟩) 501 ::
 .str (⟨#[61, 52, 68]⟩) 505 ::
 .str (⟨#[61, 52, 69]⟩) 509 ::
 .str (⟨#[61, 52, 70]⟩) 513 ::
 .str (⟨#[61, 53, 48]⟩) 517 ::
 .str (⟨#[61, 53, 49]⟩) 521 ::
 .str (⟨#[61, 53, 50]⟩) 525 ::
 .str (⟨#[61, 53, 51]⟩) 529 ::
 .str (⟨#[61, 53, 52]⟩) 533 ::
 .str (⟨#[61, 53, 53]⟩) 537 ::
 .str (⟨#[61, 53, 54]⟩) 541 ::
 .str (⟨#[61, 53, 55]⟩) 545 ::
 .str (⟨#[61, 53, 56]⟩) 549 ::
 .str (⟨#[61, 53, 57]⟩) 553 ::
 .str (⟨#[61, 53, 65]⟩) 557 ::
 .str (⟨#[61, 53, 66]⟩) 561 ::
 .str (⟨#[61, 53, 67]⟩) 565 ::
 .str (⟨#[61, 53, 68]⟩) 569 ::
 .str (⟨#[61, 53, 69]⟩) 573 ::
 .str (⟨#[61, 53, 70]⟩) 577 ::
 .str (⟨#[61, 54, 48]⟩) 581 ::
 .str (⟨#[61, 54, 49]⟩) 585 ::
 .str (⟨#[61, 54, 50]⟩) 589 ::
 .str (⟨#[61, 54, 51]⟩) 593 ::
 .str (⟨#[61, 54, 52]⟩) 597 ::
 .str (⟨#[61, 54, 53]⟩) 601 ::
 .str (⟨#[61, 54, 54]⟩) 605 ::
 .str (⟨#[61, 54, 55]⟩) 609 ::
 .str (⟨#[61, 54, 56]⟩) 613 ::
 .str (⟨#[61, 54, 57]⟩) 617 ::
 .str (⟨#[61, 54, 65]⟩) 621 ::
 .str (⟨#[61, 54, 66]⟩) 625 ::
 .str (⟨#[61, 54, 67]⟩) 629 ::
 .str (⟨#[61, 54, 68]⟩) 633 ::
 .str (⟨#[61, 54, 69]⟩) 637 ::
 .str (⟨#[61, 54, 70]⟩) 641 ::
 .str (⟨#[61, 55, 48]⟩) 645 ::
 .str (⟨#[61, 55, 49]⟩) 649 ::
 .str (⟨#[61, 55, 50]⟩) 653 ::
 .str (⟨#[61, 55, 51]⟩) 657 ::
 .str (⟨#[61, 55, 52]⟩) 661 ::
 .str (⟨#[61, 55, 53]⟩) 665 ::
 .str (⟨#[61, 55, 54]⟩) 669 ::
 .str (⟨#[61, 55, 55]⟩) 673 ::
 .str (⟨#[61, 55, 56]⟩) 677 ::
 .str (⟨#[61, 55, 57]⟩) 681 ::
 .str (⟨#[61, 55, 65]⟩) 685 ::
 .str (⟨#[61, 55, 66]⟩) 689 ::
 .str (⟨#[61, 55, 67]⟩) 693 ::
 .str (⟨#[61, 55, 68]⟩) 697 ::
 .str (⟨#[61, 55, 69]⟩) 701 ::
 .str (⟨#[61, 55, 70]⟩) 705 ::
 .str (⟨#[61, 56, 48]⟩) 709 ::
 .str (⟨#[61, 56, 49]⟩) 713 ::
 .str (⟨#[61, 56, 50]⟩) 717 ::
 .str (⟨#[61, 56, 51]⟩) 721 ::
 .str (⟨#[61, 56, 52]⟩) 725 ::
 .str (⟨#[61, 56, 53]⟩) 729 ::
 .str (⟨#[61, 56, 54]⟩) 733 ::
 .str (⟨#[61, 56, 55]⟩) 737 ::
 .str (⟨#[61, 56, 56]⟩) 741 ::
 .str (⟨#[61, 56, 57]⟩) 745 ::
 .str (⟨#[61, 56, 65]⟩) 749 ::
 .str (⟨#[61, 56, 66]⟩) 753 ::
 .str (⟨#[61, 56, 67]⟩) 757 ::
 .str (⟨#[61, 56, 68]⟩) 761 ::
 .str (⟨#[61, 56, 69]⟩) 765 ::
 .str (⟨#[61, 56, 70]⟩) 769 ::
 .str (⟨#[61, 57, 48]⟩) 773 ::
 .str (⟨#[61, 57, 49]⟩) 777 ::
 .str (⟨#[61, 57, 50]⟩) 781 ::
 .str (⟨#[61, 57, 51]⟩) 785 ::
 .str (⟨#[61, 57, 52]⟩) 789 ::
 .str (⟨#[61, 57, 53]⟩) 793 ::
 .str (⟨#[61, 57, 54]⟩) 797 ::
 .str (⟨#[61, 57, 55]⟩) 801 ::
 .str (⟨#[61, 57, 56]⟩) 805 ::
 .str (⟨#[61, 57, 57]⟩) 809 ::
 .str (⟨#[61, 57, 65]⟩) 813 ::
 .str (⟨#[61, 57, 66]⟩) 817 ::
 .str (⟨#[61, 57, 67]⟩) 821 ::
 .str (⟨#[61, 57, 68]⟩) 825 ::
 .str (⟨#[61, 57, 69]⟩) 829 ::
 .str (⟨#[61, 57, 70]⟩) 833 ::
 .str (⟨#[61, 65, 48]⟩) 837 ::
 .str (⟨#[61, 65, 49]⟩) 841 ::
 .str (⟨#[61, 65, 50]⟩) 845 ::
 .str (⟨#[61, 65, 51]⟩) 849 ::
 .str (⟨#[61, 65, 52]⟩) 853 ::
 .str (⟨#[61, 65, 53]⟩) 857 ::
 .str (⟨#[61, 65, 54]⟩) 861 ::
 .str (⟨#[61, 65, 55]⟩) 865 ::
 .str (⟨#[61, 65, 56]⟩) 869 ::
 .str (⟨#[61, 65, 57]⟩) 873 ::
 .str (⟨#[61, 65, 65]⟩) 877 ::
 .str (⟨#[61, 65, 66]⟩) 881 ::
 .str (⟨#[61, 65, 67]⟩) 885 ::
 .str (⟨#[61, 65, 68]⟩) 889 ::
 .str (⟨#[61, 65, 69]⟩) 893 ::
 .str (⟨#[61, 65, 70]⟩) 897 ::
 .str (⟨#[61, 66, 48]⟩) 901 ::
 .str (⟨#[61, 66, 49]⟩) 905 ::
 .str (⟨#[61, 66, 50]⟩) 909 ::
 .str (⟨#[61, 66, 51]⟩) 913 ::
 .str (⟨#[61, 66, 52]⟩) 917 ::
 .str (⟨#[61, 66, 53]⟩) 921 ::
 .str (⟨#[61, 66, 54]⟩) 925 ::
 .str (⟨#[61, 66, 55]⟩) 929 ::
 .str (⟨#[61, 66, 56]⟩) 933 ::
 .str (⟨#[61, 66, 57]⟩) 937 ::
 .str (⟨#[61, 66, 65]⟩) 941 ::
 .str (⟨#[61, 66, 66]⟩) 945 ::
 .str (⟨#[61, 66, 67]⟩) 949 ::
 .str (⟨#[61, 66, 68]⟩) 953 ::
 .str (⟨#[61, 66, 69]⟩) 957 ::
 .str (⟨#[61, 66, 70]⟩) 961 ::
 .str (⟨#[61, 67, 48]⟩) 965 ::
 .str (⟨#[61, 67, 49]⟩) 969 ::
 .str (⟨#[61, 67, 50]⟩) 973 ::
 .str (⟨#[61, 67, 51]⟩) 977 ::
 .str (⟨#[61, 67, 52]⟩) 981 ::
 .str (⟨#[61, 67, 53]⟩) 985 ::
 .str (⟨#[61, 67, 54]⟩) 989 ::
 .str (⟨#[61, 67, 55]⟩) 993 ::
 .str (⟨#[61, 67, 56]⟩) 997 ::
 .str (⟨#[61, 67, 57]⟩) 1001 ::
 .str (⟨#[61, 67, 65]⟩) 1005 ::
 .str (⟨#[61, 67, 66]⟩) 1009 ::
 .str (⟨#[61, 67, 67]⟩) 1013 ::
 .str (⟨#[61, 67, 68]⟩) 1017 ::
 .str (⟨#[61, 67, 69]⟩) 1021 ::
 .str (⟨#[61, 67, 70]⟩) 1025 ::
 .str (⟨#[61, 68, 48]⟩) 1029 ::
 .str (⟨#[61, 68, 49]⟩) 1033 ::
 .str (⟨#[61, 68, 50]⟩) 1037 ::
 .str (⟨#[61, 68, 51]⟩) 1041 ::
 .str (⟨#[61, 68, 52]⟩) 1045 ::
 .str (⟨#[61, 68, 53]⟩) 1049 ::
 .str (⟨#[61, 68, 54]⟩) 1053 ::
 .str (⟨#[61, 68, 55]⟩) 1057 ::
 .str (⟨#[61, 68, 56]⟩) 1061 ::
 .str (⟨#[61, 68, 57]⟩) 1065 ::
 .str (⟨#[61, 68, 65]⟩) 1069 ::
 .str (⟨#[61, 68, 66]⟩) 1073 ::
 .str (⟨#[61, 68, 67]⟩) 1077 ::
 .str (⟨#[61, 68, 68]⟩) 1081 ::
 .str (⟨#[61, 68, 69]⟩) 1085 ::
 .str (⟨#[61, 68, 70]⟩) 1089 ::
 .str (⟨#[61, 69, 48]⟩) 1093 ::
 .str (⟨#[61, 69, 49]⟩) 1097 ::
 .str (⟨#[61, 69, 50]⟩) 1101 ::
 .str (⟨#[61, 69, 51]⟩) 1105 ::
 .str (⟨#[61, 69, 52]⟩) 1109 ::
 .str (⟨#[61, 69, 53]⟩) 1113 ::
 .str (⟨#[61, 69, 54]⟩) 1117 ::
 .str (⟨#[61, 69, 55]⟩) 1121 ::
 .str (⟨#[61, 69, 56]⟩) 1125 ::
 .str (⟨#[61, 69, 57]⟩) 1129 ::
 .str (⟨#[61, 69, 65]⟩) 1133 ::
 .str (⟨#[61, 69, 66]⟩) 1137 ::
 .str (⟨#[61, 69, 67]⟩) 1141 ::
 .str (⟨#[61, 69, 68]⟩) 1145 ::
 .str (⟨#[61, 69, 69]⟩) 1149 ::
 .str (⟨#[61, 69, 70]⟩) 1153 ::
 .str (⟨#[61, 70, 48]⟩) 1157 ::
 .str (⟨#[61, 70, 49]⟩) 1161 ::
 .str (⟨#[61, 70, 50]⟩) 1165 ::
 .str (⟨#[61, 70, 51]⟩) 1169 ::
 .str (⟨#[61, 70, 52]⟩) 1173 ::
 .str (⟨#[61, 70, 53]⟩) 1177 ::
 .str (⟨#[61, 70, 54]⟩) 1181 ::
 .str (⟨#[61, 70, 55]⟩) 1185 ::
 .str (⟨#[61, 70, 56]⟩) 1189 ::
 .str (⟨#[61, 70, 57]⟩) 1193 ::
 .str (⟨#[61, 70, 65]⟩) 1197 ::
 .str (⟨#[61, 70, 66]⟩) 1201 ::
 .str (⟨#[61, 70, 67]⟩) 1205 ::
 .str (⟨#[61, 70, 68]⟩) 1209 ::
 .str (⟨#[61, 70, 69]⟩) 1213 ::
 .str (⟨#[61, 70, 70]⟩) 1217 ::
 [])) 0, #[]⟩
noncomputable def hdS2t (P : Params) : BT := (.node (PySem.W.boot_o_0 P) (.node (PySem.W.boot_o_1 P) (.node (hdO3v3 P) (.node (PySem.W.boot_o_7 P) (.node (hdO15v1 P) .nil .nil) (.node (hdO23v0 P) .nil .nil)) (.node (hdO11v0 P) (.node (hdO19v0 P) .nil .nil) .nil)) (.node (PySem.W.boot_o_5 P) (.node (PySem.W.boot_o_9 P) (.node (hdO17v1 P) .nil .nil) .nil) (.node (hdO13v0 P) (.node (hdO21v0 P) .nil .nil) .nil))) (.node (PySem.W.boot_o_2 P) (.node (PySem.W.boot_o_4 P) (.node (PySem.W.boot_o_8 P) (.node (hdO16v1 P) .nil .nil) (.node (hdO24v0 P) .nil .nil)) (.node (hdO12v0 P) (.node (hdO20v0 P) .nil .nil) .nil)) (.node (PySem.W.boot_o_6 P) (.node (PySem.W.boot_o_10 P) (.node (hdO18v1 P) .nil .nil) .nil) (.node (hdO14v0 P) (.node (hdO22v0 P) .nil .nil) .nil))))
noncomputable def hdS2 (w : World) (os : OsState) : SharedT := ⟨hdS2t w.params, 25, {}, #[], ⟨0, 0, 0, 0⟩, 1236, os⟩
theorem hdP2 (w : World) (os : OsState) : (hdRun w 133 (hdS1 w os) (hdTh (hdSts 3 8) ⟨3, 0, 3, 11⟩)) = some (.next, hdS2 w os, hdC, ⟨11, 0, 11, 8⟩) := by kernel_rfl
theorem hdR2 (w : World) (os : OsState) : hdRunS w 133 (hdS1 w os).abs (piecesOf (hdSts 3 8) hdEnv hdC ⟨3, 0, 3, 11⟩ hdF) = some (.next, (hdS2 w os).abs, hdC, ⟨11, 0, 11, 8⟩) := hdOf (hdP2 w os)
noncomputable def hdO3v4 (P : Params) : Obj := ⟨.type "dict", none, .dict #[⟨PyData.keyHash P (⟨#[95, 95, 110, 97, 109, 101, 95, 95]⟩), .str (⟨#[95, 95, 110, 97, 109, 101, 95, 95]⟩) 165, .str (⟨#[99, 112, 121, 51, 49, 51, 46, 101, 109, 97, 105, 108, 46, 113, 117, 111, 112, 114, 105, 109, 105, 109, 101]⟩) 1234⟩, ⟨PyData.keyHash P (⟨#[95, 95, 100, 111, 99, 95, 95]⟩), .str (⟨#[95, 95, 100, 111, 99, 95, 95]⟩) 166, .none⟩, ⟨PyData.keyHash P (⟨#[95, 95, 112, 97, 99, 107, 97, 103, 101, 95, 95]⟩), .str (⟨#[95, 95, 112, 97, 99, 107, 97, 103, 101, 95, 95]⟩) 167, .none⟩, ⟨PyData.keyHash P (⟨#[95, 95, 108, 111, 97, 100, 101, 114, 95, 95]⟩), .str (⟨#[95, 95, 108, 111, 97, 100, 101, 114, 95, 95]⟩) 168, .builtin "__main__.__loader__#opaque"⟩, ⟨PyData.keyHash P (⟨#[95, 95, 115, 112, 101, 99, 95, 95]⟩), .str (⟨#[95, 95, 115, 112, 101, 99, 95, 95]⟩) 169, .none⟩, ⟨PyData.keyHash P (⟨#[95, 95, 97, 110, 110, 111, 116, 97, 116, 105, 111, 110, 115, 95, 95]⟩), .str (⟨#[95, 95, 97, 110, 110, 111, 116, 97, 116, 105, 111, 110, 115, 95, 95]⟩) 170, .ref 6⟩, ⟨PyData.keyHash P (⟨#[95, 95, 98, 117, 105, 108, 116, 105, 110, 115, 95, 95]⟩), .str (⟨#[95, 95, 98, 117, 105, 108, 116, 105, 110, 115, 95, 95]⟩) 171, .ref 4⟩, ⟨PyData.keyHash P (⟨#[95, 95, 102, 105, 108, 101, 95, 95]⟩), .str (⟨#[95, 95, 102, 105, 108, 101, 95, 95]⟩) 173, .str (⟨#[47, 99, 108, 97, 105, 109, 47, 99, 117, 116, 46, 112, 121]⟩) 172⟩, ⟨PyData.keyHash P (⟨#[95, 95, 99, 97, 99, 104, 101, 100, 95, 95]⟩), .str (⟨#[95, 95, 99, 97, 99, 104, 101, 100, 95, 95]⟩) 174, .none⟩, ⟨PyData.keyHash P (⟨#[67, 82, 76, 70]⟩), .str (⟨#[67, 82, 76, 70]⟩) 188, .str (⟨#[13, 10]⟩) 187⟩, ⟨PyData.keyHash P (⟨#[78, 76]⟩), .str (⟨#[78, 76]⟩) 190, .str (⟨#[10]⟩) 189⟩, ⟨PyData.keyHash P (⟨#[95, 81, 85, 79, 80, 82, 73, 95, 77, 65, 80]⟩), .str (⟨#[95, 81, 85, 79, 80, 82, 73, 95, 77, 65, 80]⟩) 1218, .ref 17⟩, ⟨PyData.keyHash P (⟨#[95, 81, 85, 79, 80, 82, 73, 95, 72, 69, 65, 68, 69, 82, 95, 77, 65, 80]⟩), .str (⟨#[95, 81, 85, 79, 80, 82, 73, 95, 72, 69, 65, 68, 69, 82, 95, 77, 65, 80]⟩) 1219, .ref 22⟩, ⟨PyData.keyHash P (⟨#[95, 81, 85, 79, 80, 82, 73, 95, 66, 79, 68, 89, 95, 77, 65, 80]⟩), .str (⟨#[95, 81, 85, 79, 80, 82, 73, 95, 66, 79, 68, 89, 95, 77, 65, 80]⟩) 1220, .ref 24⟩, ⟨PyData.keyHash P (⟨#[97, 115, 99, 105, 105, 95, 108, 111, 119, 101, 114, 99, 97, 115, 101]⟩), .str (⟨#[97, 115, 99, 105, 105, 95, 108, 111, 119, 101, 114, 99, 97, 115, 101]⟩) 1222, .str (⟨#[97, 98, 99, 100, 101, 102, 103, 104, 105, 106, 107, 108, 109, 110, 111, 112, 113, 114, 115, 116, 117, 118, 119, 120, 121, 122]⟩) 1221⟩, ⟨PyData.keyHash P (⟨#[97, 115, 99, 105, 105, 95, 117, 112, 112, 101, 114, 99, 97, 115, 101]⟩), .str (⟨#[97, 115, 99, 105, 105, 95, 117, 112, 112, 101, 114, 99, 97, 115, 101]⟩) 1224, .str (⟨#[65, 66, 67, 68, 69, 70, 71, 72, 73, 74, 75, 76, 77, 78, 79, 80, 81, 82, 83, 84, 85, 86, 87, 88, 89, 90]⟩) 1223⟩, ⟨PyData.keyHash P (⟨#[97, 115, 99, 105, 105, 95, 108, 101, 116, 116, 101, 114, 115]⟩), .str (⟨#[97, 115, 99, 105, 105, 95, 108, 101, 116, 116, 101, 114, 115]⟩) 1226, .str (⟨#[97, 98, 99, 100, 101, 102, 103, 104, 105, 106, 107, 108, 109, 110, 111, 112, 113, 114, 115, 116, 117, 118, 119, 120, 121, 122, 65, 66, 67, 68, 69, 70, 71, 72, 73, 74, 75, 76, 77, 78, 79, 80, 81, 82, 83, 84, 85, 86, 87, 88, 89, 90]⟩) 1225⟩, ⟨PyData.keyHash P (⟨#[100, 105, 103, 105, 116, 115]⟩), .str (⟨#[100, 105, 103, 105, 116, 115]⟩) 1228, .str (⟨#[48, 49, 50, 51, 52, 53, 54, 55, 56, 57]⟩) 1227⟩, ⟨PyData.keyHash P (⟨#[104, 101, 120, 100, 105, 103, 105, 116, 115]⟩), .str (⟨#[104, 101, 120, 100, 105, 103, 105, 116, 115]⟩) 1233, .str (⟨#[48, 49, 50, 51, 52, 53, 54, 55, 56, 57, 97, 98, 99, 100, 101, 102, 65, 66, 67, 68, 69, 70]⟩) 1232⟩, ⟨PyData.keyHash P (⟨#[99]⟩), .str (⟨#[99]⟩) 1244, .int 57 1441⟩] 20, #[]⟩
noncomputable def hdO22v1 (P : Params) : Obj := ⟨.type "list", none, .seq (List.toArray (.str (⟨#[61, 48, 48]⟩) 197 ::
 .str (⟨#[61, 48, 49]⟩) 201 ::
 .str (⟨#[61, 48, 50]⟩) 205 ::
 .str (⟨#[61, 48, 51]⟩) 209 ::
 .str (⟨#[61, 48, 52]⟩) 213 ::
 .str (⟨#[61, 48, 53]⟩) 217 ::
 .str (⟨#[61, 48, 54]⟩) 221 ::
 .str (⟨#[61, 48, 55]⟩) 225 ::
 .str (⟨#[61, 48, 56]⟩) 229 ::
 .str (⟨#[61, 48, 57]⟩) 233 ::
 .str (⟨#[61, 48, 65]⟩) 237 ::
 .str (⟨#[61, 48, 66]⟩) 241 ::
 .str (⟨#[61, 48, 67]⟩) 245 ::
 .str (⟨#[61, 48, 68]⟩) 249 ::
 .str (⟨#[61, 48, 69]⟩) 253 ::
 .str (⟨#[61, 48, 70]⟩) 257 ::
 .str (⟨#[61, 49, 48]⟩) 261 ::
 .str (⟨#[61, 49, 49]⟩) 265 ::
 .str (⟨#[61, 49, 50]⟩) 269 ::
 .str (⟨#[61, 49, 51]⟩) 273 ::
 .str (⟨#[61, 49, 52]⟩) 277 ::
 .str (⟨#[61, 49, 53]⟩) 281 ::
 .str (⟨#[61, 49, 54]⟩) 285 ::
 .str (⟨#[61, 49, 55]⟩) 289 ::
 .str (⟨#[61, 49, 56]⟩) 293 ::
 .str (⟨#[61, 49, 57]⟩) 297 ::
 .str (⟨#[61, 49, 65]⟩) 301 ::
 .str (⟨#[61, 49, 66]⟩) 305 ::
 .str (⟨#[61, 49, 67]⟩) 309 ::
 .str (⟨#[61, 49, 68]⟩) 313 ::
 .str (⟨#[61, 49, 69]⟩) 317 ::
 .str (⟨#[61, 49, 70]⟩) 321 ::
 .str (⟨#[61, 50, 48]⟩) 325 ::
 .str (⟨#[33]⟩) 1248 ::
 .str (⟨#[61, 50, 50]⟩) 333 ::
 .str (⟨#[61, 50, 51]⟩) 337 ::
 .str (⟨#[61, 50, 52]⟩) 341 ::
 .str (⟨#[61, 50, 53]⟩) 345 ::
 .str (⟨#[61, 50, 54]⟩) 349 ::
 .str (⟨#[61, 50, 55]⟩) 353 ::
 .str (⟨#[61, 50, 56]⟩) 357 ::
 .str (⟨#[61, 50, 57]⟩) 361 ::
 .str (⟨#[42]⟩) 1251 ::
 .str (⟨#[43]⟩) 1254 ::
 .str (⟨#[61, 50, 67]⟩) 373 ::
 .str (⟨#[45]⟩) 1245 ::
 .str (⟨#[61, 50, 69]⟩) 381 ::
 .str (⟨#[47]⟩) 1257 ::
 .str (⟨#[48]⟩) 1416 ::
 .str (⟨#[49]⟩) 1419 ::
 .str (⟨#[50]⟩) 1422 ::
 .str (⟨#[51]⟩) 1425 ::
 .str (⟨#[52]⟩) 1428 ::
 .str (⟨#[53]⟩) 1431 ::
 .str (⟨#[54]⟩) 1434 ::
 .str (⟨#[55]⟩) 1437 ::
 .str (⟨#[56]⟩) 1440 ::
 .str (⟨#[57]⟩) 1443 ::
 .str (⟨#[61, 51, 65]⟩) 429 ::
 .str (⟨#[61, 51, 66]⟩) 433 ::
 .str (⟨#[61, 51, 67]⟩) 437 ::
 .str (⟨#[61, 51, 68]⟩) 441 ::
 .str (⟨#[61, 51, 69]⟩) 445 ::
 .str (⟨#[61, 51, 70]⟩) 449 ::
 .str (⟨#[61, 52, 48]⟩) 453 ::
 .str (⟨#[65]⟩) 1338 ::
 .str (⟨#[66]⟩) 1341 ::
 .str (⟨#[67]⟩) 1344 ::
 .str (⟨#[68]⟩) 1347 ::
 .str (⟨#[69]⟩) 1350 ::
 .str (⟨#[70]⟩) 1353 ::
 .str (⟨#[71]⟩) 1356 ::
 .str (⟨#[72]⟩) 1359 ::
 .str (⟨#[73]⟩) 1362 ::
 .str (⟨#[74]⟩) 1365 ::
 .str (⟨#[75]⟩) 1368 ::
 .str (⟨#[76]⟩) 1371 ::
 .str (⟨#[77]⟩) 1374 ::
 .str (⟨#[78]⟩) 1377 ::
 .str (⟨#[79]⟩) 1380 ::
 .str (⟨#[80]⟩) 1383 ::
 .str (⟨#[81]⟩) 1386 ::
 .str (⟨#[82]⟩) 1389 ::
 .str (⟨#[83]⟩) 1392 ::
 .str (⟨#[84]⟩) 1395 ::
 .str (⟨#[85]⟩) 1398 ::
 .str (⟨#[86]⟩) 1401 ::
 .str (⟨#[87]⟩) 1404 ::
 .str (⟨#[88]⟩) 1407 ::
 .str (⟨#[89]⟩) 1410 ::
 .str (⟨#[90]⟩) 1413 ::
 .str (⟨#[61, 53, 66]⟩) 561 ::
 .str (⟨#[61, 53, 67]⟩) 565 ::
 .str (⟨#[61, 53, 68]⟩) 569 ::
 .str (⟨#[61, 53, 69]⟩) 573 ::
 .str (⟨#[61, 53, 70]⟩) 577 ::
 .str (⟨#[61, 54, 48]⟩) 581 ::
 .str (⟨#[97]⟩) 1260 ::
 .str (⟨#[98]⟩) 1263 ::
 .str (⟨#[99]⟩) 1266 ::
 .str (⟨#[100]⟩) 1269 ::
 .str (⟨#[101]⟩) 1272 ::
 .str (⟨#[102]⟩) 1275 ::
 .str (⟨#[103]⟩) 1278 ::
 .str (⟨#[104]⟩) 1281 ::
 .str (⟨#[105]⟩) 1284 ::
 .str (⟨#[106]⟩) 1287 ::
 .str (⟨#[107]⟩) 1290 ::
 .str (⟨#[108]⟩) 1293 ::
 .str (⟨#[109]⟩) 1296 ::
 .str (⟨#[110]⟩) 1299 ::
 .str (⟨#[111]⟩) 1302 ::
 .str (⟨#[112]⟩) 1305 ::
 .str (⟨#[113]⟩) 1308 ::
 .str (⟨#[114]⟩) 1311 ::
 .str (⟨#[115]⟩) 1314 ::
 .str (⟨#[116]⟩) 1317 ::
 .str (⟨#[117]⟩) 1320 ::
 .str (⟨#[118]⟩) 1323 ::
 .str (⟨#[119]⟩) 1326 ::
 .str (⟨#[120]⟩) 1329 ::
 .str (⟨#[121]⟩) 1332 ::
 .str (⟨#[122]⟩) 1335 ::
 .str (⟨#[61, 55, 66]⟩) 689 ::
 .str (⟨#[61, 55, 67]⟩) 693 ::
 .str (⟨#[61, 55, 68]⟩) 697 ::
 .str (⟨#[61, 55, 69]⟩) 701 ::
 .str (⟨#[61, 55, 70]⟩) 705 ::
 .str (⟨#[61, 56, 48]⟩) 709 ::
 .str (⟨#[61, 56, 49]⟩) 713 ::
 .str (⟨#[61, 56, 50]⟩) 717 ::
 .str (⟨#[61, 56, 51]⟩) 721 ::
 .str (⟨#[61, 56, 52]⟩) 725 ::
 .str (⟨#[61, 56, 53]⟩) 729 ::
 .str (⟨#[61, 56, 54]⟩) 733 ::
 .str (⟨#[61, 56, 55]⟩) 737 ::
 .str (⟨#[61, 56, 56]⟩) 741 ::
 .str (⟨#[61, 56, 57]⟩) 745 ::
 .str (⟨#[61, 56, 65]⟩) 749 ::
 .str (⟨#[61, 56, 66]⟩) 753 ::
 .str (⟨#[61, 56, 67]⟩) 757 ::
 .str (⟨#[61, 56, 68]⟩) 761 ::
 .str (⟨#[61, 56, 69]⟩) 765 ::
 .str (⟨#[61, 56, 70]⟩) 769 ::
 .str (⟨#[61, 57, 48]⟩) 773 ::
 .str (⟨#[61, 57, 49]⟩) 777 ::
 .str (⟨#[61, 57, 50]⟩) 781 ::
 .str (⟨#[61, 57, 51]⟩) 785 ::
 .str (⟨#[61, 57, 52]⟩) 789 ::
 .str (⟨#[61, 57, 53]⟩) 793 ::
 .str (⟨#[61, 57, 54]⟩) 797 ::
 .str (⟨#[61, 57, 55]⟩) 801 ::
 .str (⟨#[61, 57, 56]⟩) 805 ::
 .str (⟨#[61, 57, 57]⟩) 809 ::
 .str (⟨#[61, 57, 65]⟩) 813 ::
 .str (⟨#[61, 57, 66]⟩) 817 ::
 .str (⟨#[61, 57, 67]⟩) 821 ::
 .str (⟨#[61, 57, 68]⟩) 825 ::
 .str (⟨#[61, 57, 69]⟩) 829 ::
 .str (⟨#[61, 57, 70]⟩) 833 ::
 .str (⟨#[61, 65, 48]⟩) 837 ::
 .str (⟨#[61, 65, 49]⟩) 841 ::
 .str (⟨#[61, 65, 50]⟩) 845 ::
 .str (⟨#[61, 65, 51]⟩) 849 ::
 .str (⟨#[61, 65, 52]⟩) 853 ::
 .str (⟨#[61, 65, 53]⟩) 857 ::
 .str (⟨#[61, 65, 54]⟩) 861 ::
 .str (⟨#[61, 65, 55]⟩) 865 ::
 .str (⟨#[61, 65, 56]⟩) 869 ::
 .str (⟨#[61, 65, 57]⟩) 873 ::
 .str (⟨#[61, 65, 65]⟩) 877 ::
 .str (⟨#[61, 65, 66]⟩) 881 ::
 .str (⟨#[61, 65, 67]⟩) 885 ::
 .str (⟨#[61, 65, 68]⟩) 889 ::
 .str (⟨#[61, 65, 69]⟩) 893 ::
 .str (⟨#[61, 65, 70]⟩) 897 ::
 .str (⟨#[61, 66, 48]⟩) 901 ::
 .str (⟨#[61, 66, 49]⟩) 905 ::
 .str (⟨#[61, 66, 50]⟩) 909 ::
 .str (⟨#[61, 66, 51]⟩) 913 ::
 .str (⟨#[61, 66, 52]⟩) 917 ::
 .str (⟨#[61, 66, 53]⟩) 921 ::
 .str (⟨#[61, 66, 54]⟩) 925 ::
 .str (⟨#[61, 66, 55]⟩) 929 ::
 .str (⟨#[61, 66, 56]⟩) 933 ::
 .str (⟨#[61, 66, 57]⟩) 937 ::
 .str (⟨#[61, 66, 65]⟩) 941 ::
 .str (⟨#[61, 66, 66]⟩) 945 ::
 .str (⟨#[61, 66, 67]⟩) 949 ::
 .str (⟨#[61, 66, 68]⟩) 953 ::
 .str (⟨#[61, 66, 69]⟩) 957 ::
 .str (⟨#[61, 66, 70]⟩) 961 ::
 .str (⟨#[61, 67, 48]⟩) 965 ::
 .str (⟨#[61, 67, 49]⟩) 969 ::
 .str (⟨#[61, 67, 50]⟩) 973 ::
 .str (⟨#[61, 67, 51]⟩) 977 ::
 .str (⟨#[61, 67, 52]⟩) 981 ::
 .str (⟨#[61, 67, 53]⟩) 985 ::
 .str (⟨#[61, 67, 54]⟩) 989 ::
 .str (⟨#[61, 67, 55]⟩) 993 ::
 .str (⟨#[61, 67, 56]⟩) 997 ::
 .str (⟨#[61, 67, 57]⟩) 1001 ::
 .str (⟨#[61, 67, 65]⟩) 1005 ::
 .str (⟨#[61, 67, 66]⟩) 1009 ::
 .str (⟨#[61, 67, 67]⟩) 1013 ::
 .str (⟨#[61, 67, 68]⟩) 1017 ::
 .str (⟨#[61, 67, 69]⟩) 1021 ::
 .str (⟨#[61, 67, 70]⟩) 1025 ::
 .str (⟨#[61, 68, 48]⟩) 1029 ::
 .str (⟨#[61, 68, 49]⟩) 1033 ::
 .str (⟨#[61, 68, 50]⟩) 1037 ::
 .str (⟨#[61, 68, 51]⟩) 1041 ::
 .str (⟨#[61, 68, 52]⟩) 1045 ::
 .str (⟨#[61, 68, 53]⟩) 1049 ::
 .str (⟨#[61, 68, 54]⟩) 1053 ::
 .str (⟨#[61, 68, 55]⟩) 1057 ::
 .str (⟨#[61, 68, 56]⟩) 1061 ::
 .str (⟨#[61, 68, 57]⟩) 1065 ::
 .str (⟨#[61, 68, 65]⟩) 1069 ::
 .str (⟨#[61, 68, 66]⟩) 1073 ::
 .str (⟨#[61, 68, 67]⟩) 1077 ::
 .str (⟨#[61, 68, 68]⟩) 1081 ::
 .str (⟨#[61, 68, 69]⟩) 1085 ::
 .str (⟨#[61, 68, 70]⟩) 1089 ::
 .str (⟨#[61, 69, 48]⟩) 1093 ::
 .str (⟨#[61, 69, 49]⟩) 1097 ::
 .str (⟨#[61, 69, 50]⟩) 1101 ::
 .str (⟨#[61, 69, 51]⟩) 1105 ::
 .str (⟨#[61, 69, 52]⟩) 1109 ::
 .str (⟨#[61, 69, 53]⟩) 1113 ::
 .str (⟨#[61, 69, 54]⟩) 1117 ::
 .str (⟨#[61, 69, 55]⟩) 1121 ::
 .str (⟨#[61, 69, 56]⟩) 1125 ::
 .str (⟨#[61, 69, 57]⟩) 1129 ::
 .str (⟨#[61, 69, 65]⟩) 1133 ::
 .str (⟨#[61, 69, 66]⟩) 1137 ::
 .str (⟨#[61, 69, 67]⟩) 1141 ::
 .str (⟨#[61, 69, 68]⟩) 1145 ::
 .str (⟨#[61, 69, 69]⟩) 1149 ::
 .str (⟨#[61, 69, 70]⟩) 1153 ::
 .str (⟨#[61, 70, 48]⟩) 1157 ::
 .str (⟨#[61, 70, 49]⟩) 1161 ::
 .str (⟨#[61, 70, 50]⟩) 1165 ::
 .str (⟨#[61, 70, 51]⟩) 1169 ::
 .str (⟨#[61, 70, 52]⟩) 1173 ::
 .str (⟨#[61, 70, 53]⟩) 1177 ::
 .str (⟨#[61, 70, 54]⟩) 1181 ::
 .str (⟨#[61, 70, 55]⟩) 1185 ::
 .str (⟨#[61, 70, 56]⟩) 1189 ::
 .str (⟨#[61, 70, 57]⟩) 1193 ::
 .str (⟨#[61, 70, 65]⟩) 1197 ::
 .str (⟨#[61, 70, 66]⟩) 1201 ::
 .str (⟨#[61, 70, 67]⟩) 1205 ::
 .str (⟨#[61, 70, 68]⟩) 1209 ::
 .str (⟨#[61, 70, 69]⟩) 1213 ::
 .str (⟨#[61, 70, 70]⟩) 1217 ::
 [])) 0, #[]⟩
noncomputable def hdO25v0 (P : Params) : Obj := ⟨.type "bytes_iterator", none, .fields #[.none, .int 67 0], #[]⟩
noncomputable def hdO26v0 (P : Params) : Obj := ⟨.type "tuple", none, .seq #[] 0, #[]⟩
noncomputable def hdO27v0 (P : Params) : Obj := ⟨.type "StopIteration", none, .fields #[.ref 26, .none, .none, .none, .bool false, .none], #[]⟩
noncomputable def hdS3t (P : Params) : BT := (.node (PySem.W.boot_o_0 P) (.node (PySem.W.boot_o_1 P) (.node (hdO3v4 P) (.node (PySem.W.boot_o_7 P) (.node (hdO15v1 P) .nil .nil) (.node (hdO23v0 P) .nil .nil)) (.node (hdO11v0 P) (.node (hdO19v0 P) .nil .nil) (.node (hdO27v0 P) .nil .nil))) (.node (PySem.W.boot_o_5 P) (.node (PySem.W.boot_o_9 P) (.node (hdO17v1 P) .nil .nil) (.node (hdO25v0 P) .nil .nil)) (.node (hdO13v0 P) (.node (hdO21v0 P) .nil .nil) .nil))) (.node (PySem.W.boot_o_2 P) (.node (PySem.W.boot_o_4 P) (.node (PySem.W.boot_o_8 P) (.node (hdO16v1 P) .nil .nil) (.node (hdO24v0 P) .nil .nil)) (.node (hdO12v0 P) (.node (hdO20v0 P) .nil .nil) .nil)) (.node (PySem.W.boot_o_6 P) (.node (PySem.W.boot_o_10 P) (.node (hdO18v1 P) .nil .nil) (.node (hdO26v0 P) .nil .nil)) (.node (hdO14v0 P) (.node (hdO22v1 P) .nil .nil) .nil))))
noncomputable def hdS3 (w : World) (os : OsState) : SharedT := ⟨hdS3t w.params, 28, {}, #[], ⟨0, 0, 0, 0⟩, 1444, os⟩
theorem hdP3f (w : World) (os : OsState) : (hdRun (w.withFollow "special-get-raises" false) 3077 (hdS2 (w.withFollow "special-get-raises" false) os) (hdTh (hdSts 11 1) ⟨11, 0, 11, 8⟩)) = some (.next, hdS3 (w.withFollow "special-get-raises" false) os, hdC, ⟨12, 9, 12, 74⟩) := by kernel_rfl
theorem hdP3t (w : World) (os : OsState) : (hdRun (w.withFollow "special-get-raises" true) 3077 (hdS2 (w.withFollow "special-get-raises" true) os) (hdTh (hdSts 11 1) ⟨11, 0, 11, 8⟩)) = some (.next, hdS3 (w.withFollow "special-get-raises" true) os, hdC, ⟨12, 9, 12, 74⟩) := by kernel_rfl
theorem hdP3 (w : World) (os : OsState) : (hdRun w 3077 (hdS2 w os) (hdTh (hdSts 11 1) ⟨11, 0, 11, 8⟩)) = some (.next, hdS3 w os, hdC, ⟨12, 9, 12, 74⟩) := byRow2 "special-get-raises" (P := fun w => (hdRun w 3077 (hdS2 w os) (hdTh (hdSts 11 1) ⟨11, 0, 11, 8⟩)) = some (.next, hdS3 w os, hdC, ⟨12, 9, 12, 74⟩)) (fun w => hdP3f w os) (fun w => hdP3t w os) w
theorem hdR3 (w : World) (os : OsState) : hdRunS w 3077 (hdS2 w os).abs (piecesOf (hdSts 11 1) hdEnv hdC ⟨11, 0, 11, 8⟩ hdF) = some (.next, (hdS3 w os).abs, hdC, ⟨12, 9, 12, 74⟩) := hdOf (hdP3 w os)
noncomputable def hdO22v2 (P : Params) : Obj := ⟨.type "list", none, .seq (List.toArray (.str (⟨#[61, 48, 48]⟩) 197 ::
 .str (⟨#[61, 48, 49]⟩) 201 ::
 .str (⟨#[61, 48, 50]⟩) 205 ::
 .str (⟨#[61, 48, 51]⟩) 209 ::
 .str (⟨#[61, 48, 52]⟩) 213 ::
 .str (⟨#[61, 48, 53]⟩) 217 ::
 .str (⟨#[61, 48, 54]⟩) 221 ::
 .str (⟨#[61, 48, 55]⟩) 225 ::
 .str (⟨#[61, 48, 56]⟩) 229 ::
 .str (⟨#[61, 48, 57]⟩) 233 ::
 .str (⟨#[61, 48, 65]⟩) 237 ::
 .str (⟨#[61, 48, 66]⟩) 241 ::
 .str (⟨#[61, 48, 67]⟩) 245 ::
 .str (⟨#[61, 48, 68]⟩) 249 ::
 .str (⟨#[61, 48, 69]⟩) 253 ::
 .str (⟨#[61, 48, 70]⟩) 257 ::
 .str (⟨#[61, 49, 48]⟩) 261 ::
 .str (⟨#[61, 49, 49]⟩) 265 ::
 .str (⟨#[61, 49, 50]⟩) 269 ::
 .str (⟨#[61, 49, 51]⟩) 273 ::
 .str (⟨#[61, 49, 52]⟩) 277 ::
 .str (⟨#[61, 49, 53]⟩) 281 ::
 .str (⟨#[61, 49, 54]⟩) 285 ::
 .str (⟨#[61, 49, 55]⟩) 289 ::
 .str (⟨#[61, 49, 56]⟩) 293 ::
 .str (⟨#[61, 49, 57]⟩) 297 ::
 .str (⟨#[61, 49, 65]⟩) 301 ::
 .str (⟨#[61, 49, 66]⟩) 305 ::
 .str (⟨#[61, 49, 67]⟩) 309 ::
 .str (⟨#[61, 49, 68]⟩) 313 ::
 .str (⟨#[61, 49, 69]⟩) 317 ::
 .str (⟨#[61, 49, 70]⟩) 321 ::
 .str (⟨#[95]⟩) 1444 ::
 .str (⟨#[33]⟩) 1248 ::
 .str (⟨#[61, 50, 50]⟩) 333 ::
 .str (⟨#[61, 50, 51]⟩) 337 ::
 .str (⟨#[61, 50, 52]⟩) 341 ::
 .str (⟨#[61, 50, 53]⟩) 345 ::
 .str (⟨#[61, 50, 54]⟩) 349 ::
 .str (⟨#[61, 50, 55]⟩) 353 ::
 .str (⟨#[61, 50, 56]⟩) 357 ::
 .str (⟨#[61, 50, 57]⟩) 361 ::
 .str (⟨#[42]⟩) 1251 ::
 .str (⟨#[43]⟩) 1254 ::
 .str (⟨#[61, 50, 67]⟩) 373 ::
 .str (⟨#[45]⟩) 1245 ::
 .str (⟨#[61, 50, 69]⟩) 381 ::
 .str (⟨#[47]⟩) 1257 ::
 .str (⟨#[48]⟩) 1416 ::
 .str (⟨#[49]⟩) 1419 ::
 .str (⟨#[50]⟩) 1422 ::
 .str (⟨#[51]⟩) 1425 ::
 .str (⟨#[52]⟩) 1428 ::
 .str (⟨#[53]⟩) 1431 ::
 .str (⟨#[54]⟩) 1434 ::
 .str (⟨#[55]⟩) 1437 ::
 .str (⟨#[56]⟩) 1440 ::
 .str (⟨#[57]⟩) 1443 ::
 .str (⟨#[61, 51, 65]⟩) 429 ::
 .str (⟨#[61, 51, 66]⟩) 433 ::
 .str (⟨#[61, 51, 67]⟩) 437 ::
 .str (⟨#[61, 51, 68]⟩) 441 ::
 .str (⟨#[61, 51, 69]⟩) 445 ::
 .str (⟨#[61, 51, 70]⟩) 449 ::
 .str (⟨#[61, 52, 48]⟩) 453 ::
 .str (⟨#[65]⟩) 1338 ::
 .str (⟨#[66]⟩) 1341 ::
 .str (⟨#[67]⟩) 1344 ::
 .str (⟨#[68]⟩) 1347 ::
 .str (⟨#[69]⟩) 1350 ::
 .str (⟨#[70]⟩) 1353 ::
 .str (⟨#[71]⟩) 1356 ::
 .str (⟨#[72]⟩) 1359 ::
 .str (⟨#[73]⟩) 1362 ::
 .str (⟨#[74]⟩) 1365 ::
 .str (⟨#[75]⟩) 1368 ::
 .str (⟨#[76]⟩) 1371 ::
 .str (⟨#[77]⟩) 1374 ::
 .str (⟨#[78]⟩) 1377 ::
 .str (⟨#[79]⟩) 1380 ::
 .str (⟨#[80]⟩) 1383 ::
 .str (⟨#[81]⟩) 1386 ::
 .str (⟨#[82]⟩) 1389 ::
 .str (⟨#[83]⟩) 1392 ::
 .str (⟨#[84]⟩) 1395 ::
 .str (⟨#[85]⟩) 1398 ::
 .str (⟨#[86]⟩) 1401 ::
 .str (⟨#[87]⟩) 1404 ::
 .str (⟨#[88]⟩) 1407 ::
 .str (⟨#[89]⟩) 1410 ::
 .str (⟨#[90]⟩) 1413 ::
 .str (⟨#[61, 53, 66]⟩) 561 ::
 .str (⟨#[61, 53, 67]⟩) 565 ::
 .str (⟨#[61, 53, 68]⟩) 569 ::
 .str (⟨#[61, 53, 69]⟩) 573 ::
 .str (⟨#[61, 53, 70]⟩) 577 ::
 .str (⟨#[61, 54, 48]⟩) 581 ::
 .str (⟨#[97]⟩) 1260 ::
 .str (⟨#[98]⟩) 1263 ::
 .str (⟨#[99]⟩) 1266 ::
 .str (⟨#[100]⟩) 1269 ::
 .str (⟨#[101]⟩) 1272 ::
 .str (⟨#[102]⟩) 1275 ::
 .str (⟨#[103]⟩) 1278 ::
 .str (⟨#[104]⟩) 1281 ::
 .str (⟨#[105]⟩) 1284 ::
 .str (⟨#[106]⟩) 1287 ::
 .str (⟨#[107]⟩) 1290 ::
 .str (⟨#[108]⟩) 1293 ::
 .str (⟨#[109]⟩) 1296 ::
 .str (⟨#[110]⟩) 1299 ::
 .str (⟨#[111]⟩) 1302 ::
 .str (⟨#[112]⟩) 1305 ::
 .str (⟨#[113]⟩) 1308 ::
 .str (⟨#[114]⟩) 1311 ::
 .str (⟨#[115]⟩) 1314 ::
 .str (⟨#[116]⟩) 1317 ::
 .str (⟨#[117]⟩) 1320 ::
 .str (⟨#[118]⟩) 1323 ::
 .str (⟨#[119]⟩) 1326 ::
 .str (⟨#[120]⟩) 1329 ::
 .str (⟨#[121]⟩) 1332 ::
 .str (⟨#[122]⟩) 1335 ::
 .str (⟨#[61, 55, 66]⟩) 689 ::
 .str (⟨#[61, 55, 67]⟩) 693 ::
 .str (⟨#[61, 55, 68]⟩) 697 ::
 .str (⟨#[61, 55, 69]⟩) 701 ::
 .str (⟨#[61, 55, 70]⟩) 705 ::
 .str (⟨#[61, 56, 48]⟩) 709 ::
 .str (⟨#[61, 56, 49]⟩) 713 ::
 .str (⟨#[61, 56, 50]⟩) 717 ::
 .str (⟨#[61, 56, 51]⟩) 721 ::
 .str (⟨#[61, 56, 52]⟩) 725 ::
 .str (⟨#[61, 56, 53]⟩) 729 ::
 .str (⟨#[61, 56, 54]⟩) 733 ::
 .str (⟨#[61, 56, 55]⟩) 737 ::
 .str (⟨#[61, 56, 56]⟩) 741 ::
 .str (⟨#[61, 56, 57]⟩) 745 ::
 .str (⟨#[61, 56, 65]⟩) 749 ::
 .str (⟨#[61, 56, 66]⟩) 753 ::
 .str (⟨#[61, 56, 67]⟩) 757 ::
 .str (⟨#[61, 56, 68]⟩) 761 ::
 .str (⟨#[61, 56, 69]⟩) 765 ::
 .str (⟨#[61, 56, 70]⟩) 769 ::
 .str (⟨#[61, 57, 48]⟩) 773 ::
 .str (⟨#[61, 57, 49]⟩) 777 ::
 .str (⟨#[61, 57, 50]⟩) 781 ::
 .str (⟨#[61, 57, 51]⟩) 785 ::
 .str (⟨#[61, 57, 52]⟩) 789 ::
 .str (⟨#[61, 57, 53]⟩) 793 ::
 .str (⟨#[61, 57, 54]⟩) 797 ::
 .str (⟨#[61, 57, 55]⟩) 801 ::
 .str (⟨#[61, 57, 56]⟩) 805 ::
 .str (⟨#[61, 57, 57]⟩) 809 ::
 .str (⟨#[61, 57, 65]⟩) 813 ::
 .str (⟨#[61, 57, 66]⟩) 817 ::
 .str (⟨#[61, 57, 67]⟩) 821 ::
 .str (⟨#[61, 57, 68]⟩) 825 ::
 .str (⟨#[61, 57, 69]⟩) 829 ::
 .str (⟨#[61, 57, 70]⟩) 833 ::
 .str (⟨#[61, 65, 48]⟩) 837 ::
 .str (⟨#[61, 65, 49]⟩) 841 ::
 .str (⟨#[61, 65, 50]⟩) 845 ::
 .str (⟨#[61, 65, 51]⟩) 849 ::
 .str (⟨#[61, 65, 52]⟩) 853 ::
 .str (⟨#[61, 65, 53]⟩) 857 ::
 .str (⟨#[61, 65, 54]⟩) 861 ::
 .str (⟨#[61, 65, 55]⟩) 865 ::
 .str (⟨#[61, 65, 56]⟩) 869 ::
 .str (⟨#[61, 65, 57]⟩) 873 ::
 .str (⟨#[61, 65, 65]⟩) 877 ::
 .str (⟨#[61, 65, 66]⟩) 881 ::
 .str (⟨#[61, 65, 67]⟩) 885 ::
 .str (⟨#[61, 65, 68]⟩) 889 ::
 .str (⟨#[61, 65, 69]⟩) 893 ::
 .str (⟨#[61, 65, 70]⟩) 897 ::
 .str (⟨#[61, 66, 48]⟩) 901 ::
 .str (⟨#[61, 66, 49]⟩) 905 ::
 .str (⟨#[61, 66, 50]⟩) 909 ::
 .str (⟨#[61, 66, 51]⟩) 913 ::
 .str (⟨#[61, 66, 52]⟩) 917 ::
 .str (⟨#[61, 66, 53]⟩) 921 ::
 .str (⟨#[61, 66, 54]⟩) 925 ::
 .str (⟨#[61, 66, 55]⟩) 929 ::
 .str (⟨#[61, 66, 56]⟩) 933 ::
 .str (⟨#[61, 66, 57]⟩) 937 ::
 .str (⟨#[61, 66, 65]⟩) 941 ::
 .str (⟨#[61, 66, 66]⟩) 945 ::
 .str (⟨#[61, 66, 67]⟩) 949 ::
 .str (⟨#[61, 66, 68]⟩) 953 ::
 .str (⟨#[61, 66, 69]⟩) 957 ::
 .str (⟨#[61, 66, 70]⟩) 961 ::
 .str (⟨#[61, 67, 48]⟩) 965 ::
 .str (⟨#[61, 67, 49]⟩) 969 ::
 .str (⟨#[61, 67, 50]⟩) 973 ::
 .str (⟨#[61, 67, 51]⟩) 977 ::
 .str (⟨#[61, 67, 52]⟩) 981 ::
 .str (⟨#[61, 67, 53]⟩) 985 ::
 .str (⟨#[61, 67, 54]⟩) 989 ::
 .str (⟨#[61, 67, 55]⟩) 993 ::
 .str (⟨#[61, 67, 56]⟩) 997 ::
 .str (⟨#[61, 67, 57]⟩) 1001 ::
 .str (⟨#[61, 67, 65]⟩) 1005 ::
 .str (⟨#[61, 67, 66]⟩) 1009 ::
 .str (⟨#[61, 67, 67]⟩) 1013 ::
 .str (⟨#[61, 67, 68]⟩) 1017 ::
 .str (⟨#[61, 67, 69]⟩) 1021 ::
 .str (⟨#[61, 67, 70]⟩) 1025 ::
 .str (⟨#[61, 68, 48]⟩) 1029 ::
 .str (⟨#[61, 68, 49]⟩) 1033 ::
 .str (⟨#[61, 68, 50]⟩) 1037 ::
 .str (⟨#[61, 68, 51]⟩) 1041 ::
 .str (⟨#[61, 68, 52]⟩) 1045 ::
 .str (⟨#[61, 68, 53]⟩) 1049 ::
 .str (⟨#[61, 68, 54]⟩) 1053 ::
 .str (⟨#[61, 68, 55]⟩) 1057 ::
 .str (⟨#[61, 68, 56]⟩) 1061 ::
 .str (⟨#[61, 68, 57]⟩) 1065 ::
 .str (⟨#[61, 68, 65]⟩) 1069 ::
 .str (⟨#[61, 68, 66]⟩) 1073 ::
 .str (⟨#[61, 68, 67]⟩) 1077 ::
 .str (⟨#[61, 68, 68]⟩) 1081 ::
 .str (⟨#[61, 68, 69]⟩) 1085 ::
 .str (⟨#[61, 68, 70]⟩) 1089 ::
 .str (⟨#[61, 69, 48]⟩) 1093 ::
 .str (⟨#[61, 69, 49]⟩) 1097 ::
 .str (⟨#[61, 69, 50]⟩) 1101 ::
 .str (⟨#[61, 69, 51]⟩) 1105 ::
 .str (⟨#[61, 69, 52]⟩) 1109 ::
 .str (⟨#[61, 69, 53]⟩) 1113 ::
 .str (⟨#[61, 69, 54]⟩) 1117 ::
 .str (⟨#[61, 69, 55]⟩) 1121 ::
 .str (⟨#[61, 69, 56]⟩) 1125 ::
 .str (⟨#[61, 69, 57]⟩) 1129 ::
 .str (⟨#[61, 69, 65]⟩) 1133 ::
 .str (⟨#[61, 69, 66]⟩) 1137 ::
 .str (⟨#[61, 69, 67]⟩) 1141 ::
 .str (⟨#[61, 69, 68]⟩) 1145 ::
 .str (⟨#[61, 69, 69]⟩) 1149 ::
 .str (⟨#[61, 69, 70]⟩) 1153 ::
 .str (⟨#[61, 70, 48]⟩) 1157 ::
 .str (⟨#[61, 70, 49]⟩) 1161 ::
 .str (⟨#[61, 70, 50]⟩) 1165 ::
 .str (⟨#[61, 70, 51]⟩) 1169 ::
 .str (⟨#[61, 70, 52]⟩) 1173 ::
 .str (⟨#[61, 70, 53]⟩) 1177 ::
 .str (⟨#[61, 70, 54]⟩) 1181 ::
 .str (⟨#[61, 70, 55]⟩) 1185 ::
 .str (⟨#[61, 70, 56]⟩) 1189 ::
 .str (⟨#[61, 70, 57]⟩) 1193 ::
 .str (⟨#[61, 70, 65]⟩) 1197 ::
 .str (⟨#[61, 70, 66]⟩) 1201 ::
 .str (⟨#[61, 70, 67]⟩) 1205 ::
 .str (⟨#[61, 70, 68]⟩) 1209 ::
 .str (⟨#[61, 70, 69]⟩) 1213 ::
 .str (⟨#[61, 70, 70]⟩) 1217 ::
 [])) 0, #[]⟩
noncomputable def hdS4t (P : Params) : BT := (.node (PySem.W.boot_o_0 P) (.node (PySem.W.boot_o_1 P) (.node (hdO3v4 P) (.node (PySem.W.boot_o_7 P) (.node (hdO15v1 P) .nil .nil) (.node (hdO23v0 P) .nil .nil)) (.node (hdO11v0 P) (.node (hdO19v0 P) .nil .nil) (.node (hdO27v0 P) .nil .nil))) (.node (PySem.W.boot_o_5 P) (.node (PySem.W.boot_o_9 P) (.node (hdO17v1 P) .nil .nil) (.node (hdO25v0 P) .nil .nil)) (.node (hdO13v0 P) (.node (hdO21v0 P) .nil .nil) .nil))) (.node (PySem.W.boot_o_2 P) (.node (PySem.W.boot_o_4 P) (.node (PySem.W.boot_o_8 P) (.node (hdO16v1 P) .nil .nil) (.node (hdO24v0 P) .nil .nil)) (.node (hdO12v0 P) (.node (hdO20v0 P) .nil .nil) .nil)) (.node (PySem.W.boot_o_6 P) (.node (PySem.W.boot_o_10 P) (.node (hdO18v1 P) .nil .nil) (.node (hdO26v0 P) .nil .nil)) (.node (hdO14v0 P) (.node (hdO22v2 P) .nil .nil) .nil))))
noncomputable def hdS4 (w : World) (os : OsState) : SharedT := ⟨hdS4t w.params, 28, {}, #[], ⟨0, 0, 0, 0⟩, 1447, os⟩
theorem hdP4 (w : World) (os : OsState) : (hdRun w 25 (hdS3 w os) (hdTh (hdSts 12 1) ⟨12, 9, 12, 74⟩)) = some (.next, hdS4 w os, hdC, ⟨14, 0, 14, 28⟩) := by kernel_rfl
theorem hdR4 (w : World) (os : OsState) : hdRunS w 25 (hdS3 w os).abs (piecesOf (hdSts 12 1) hdEnv hdC ⟨12, 9, 12, 74⟩ hdF) = some (.next, (hdS4 w os).abs, hdC, ⟨14, 0, 14, 28⟩) := hdOf (hdP4 w os)
noncomputable def hdO28v0 (P : Params) : Obj := ⟨.type "bytes_iterator", none, .fields #[.bytes #[32, 33, 34, 35, 36, 37, 38, 39, 40, 41, 42, 43, 44, 45, 46, 47, 48, 49, 50, 51, 52, 53, 54, 55, 56, 57, 58, 59, 60, 62, 63, 64, 65, 66, 67, 68, 69, 70, 71, 72, 73, 74, 75, 76, 77, 78, 79, 80, 81, 82, 83, 84, 85, 86, 87, 88, 89, 90, 91, 92, 93, 94, 95, 96, 97, 98, 99, 100, 101, 102, 103, 104, 105, 106, 107, 108, 109, 110, 111, 112, 113, 114, 115, 116, 117, 118, 119, 120, 121, 122, 123, 124, 125, 126, 9] 1447, .int 0 0], #[]⟩
noncomputable def hdS5ct (P : Params) : BT := (.node (PySem.W.boot_o_0 P) (.node (PySem.W.boot_o_1 P) (.node (hdO3v4 P) (.node (PySem.W.boot_o_7 P) (.node (hdO15v1 P) .nil .nil) (.node (hdO23v0 P) .nil .nil)) (.node (hdO11v0 P) (.node (hdO19v0 P) .nil .nil) (.node (hdO27v0 P) .nil .nil))) (.node (PySem.W.boot_o_5 P) (.node (PySem.W.boot_o_9 P) (.node (hdO17v1 P) .nil .nil) (.node (hdO25v0 P) .nil .nil)) (.node (hdO13v0 P) (.node (hdO21v0 P) .nil .nil) .nil))) (.node (PySem.W.boot_o_2 P) (.node (PySem.W.boot_o_4 P) (.node (PySem.W.boot_o_8 P) (.node (hdO16v1 P) .nil .nil) (.node (hdO24v0 P) .nil .nil)) (.node (hdO12v0 P) (.node (hdO20v0 P) .nil .nil) (.node (hdO28v0 P) .nil .nil))) (.node (PySem.W.boot_o_6 P) (.node (PySem.W.boot_o_10 P) (.node (hdO18v1 P) .nil .nil) (.node (hdO26v0 P) .nil .nil)) (.node (hdO14v0 P) (.node (hdO22v2 P) .nil .nil) .nil))))
noncomputable def hdS5c (w : World) (os : OsState) : SharedT := ⟨hdS5ct w.params, 29, {}, #[], ⟨0, 0, 0, 0⟩, 1448, os⟩
noncomputable def hdT5 (w : World) (os : OsState) : Thread := ((hdGo (w.withFollow "special-get-raises" false) 10 (hdS4 (w.withFollow "special-get-raises" false) os) (hdTh (hdSts 13 1) ⟨14, 0, 14, 28⟩)).getD (hdS4 (w.withFollow "special-get-raises" false) os, (hdTh (hdSts 13 1) ⟨14, 0, 14, 28⟩))).2
theorem hdC5ff (w : World) (os : OsState) : hdGo (w.withFollow "special-get-raises" false) 10 (hdS4 (w.withFollow "special-get-raises" false) os) (hdTh (hdSts 13 1) ⟨14, 0, 14, 28⟩) = some (hdS5c (w.withFollow "special-get-raises" false) os, hdT5 (w.withFollow "special-get-raises" false) os) := by kernel_rfl
theorem hdC5ft (w : World) (os : OsState) : hdGo (w.withFollow "special-get-raises" true) 10 (hdS4 (w.withFollow "special-get-raises" true) os) (hdTh (hdSts 13 1) ⟨14, 0, 14, 28⟩) = some (hdS5c (w.withFollow "special-get-raises" true) os, hdT5 (w.withFollow "special-get-raises" true) os) := by kernel_rfl
noncomputable def hdO3v5 (P : Params) : Obj := ⟨.type "dict", none, .dict #[⟨PyData.keyHash P (⟨#[95, 95, 110, 97, 109, 101, 95, 95]⟩), .str (⟨#[95, 95, 110, 97, 109, 101, 95, 95]⟩) 165, .str (⟨#[99, 112, 121, 51, 49, 51, 46, 101, 109, 97, 105, 108, 46, 113, 117, 111, 112, 114, 105, 109, 105, 109, 101]⟩) 1234⟩, ⟨PyData.keyHash P (⟨#[95, 95, 100, 111, 99, 95, 95]⟩), .str (⟨#[95, 95, 100, 111, 99, 95, 95]⟩) 166, .none⟩, ⟨PyData.keyHash P (⟨#[95, 95, 112, 97, 99, 107, 97, 103, 101, 95, 95]⟩), .str (⟨#[95, 95, 112, 97, 99, 107, 97, 103, 101, 95, 95]⟩) 167, .none⟩, ⟨PyData.keyHash P (⟨#[95, 95, 108, 111, 97, 100, 101, 114, 95, 95]⟩), .str (⟨#[95, 95, 108, 111, 97, 100, 101, 114, 95, 95]⟩) 168, .builtin "__main__.__loader__#opaque"⟩, ⟨PyData.keyHash P (⟨#[95, 95, 115, 112, 101, 99, 95, 95]⟩), .str (⟨#[95, 95, 115, 112, 101, 99, 95, 95]⟩) 169, .none⟩, ⟨PyData.keyHash P (⟨#[95, 95, 97, 110, 110, 111, 116, 97, 116, 105, 111, 110, 115, 95, 95]⟩), .str (⟨#[95, 95, 97, 110, 110, 111, 116, 97, 116, 105, 111, 110, 115, 95, 95]⟩) 170, .ref 6⟩, ⟨PyData.keyHash P (⟨#[95, 95, 98, 117, 105, 108, 116, 105, 110, 115, 95, 95]⟩), .str (⟨#[95, 95, 98, 117, 105, 108, 116, 105, 110, 115, 95, 95]⟩) 171, .ref 4⟩, ⟨PyData.keyHash P (⟨#[95, 95, 102, 105, 108, 101, 95, 95]⟩), .str (⟨#[95, 95, 102, 105, 108, 101, 95, 95]⟩) 173, .str (⟨#[47, 99, 108, 97, 105, 109, 47, 99, 117, 116, 46, 112, 121]⟩) 172⟩, ⟨PyData.keyHash P (⟨#[95, 95, 99, 97, 99, 104, 101, 100, 95, 95]⟩), .str (⟨#[95, 95, 99, 97, 99, 104, 101, 100, 95, 95]⟩) 174, .none⟩, ⟨PyData.keyHash P (⟨#[67, 82, 76, 70]⟩), .str (⟨#[67, 82, 76, 70]⟩) 188, .str (⟨#[13, 10]⟩) 187⟩, ⟨PyData.keyHash P (⟨#[78, 76]⟩), .str (⟨#[78, 76]⟩) 190, .str (⟨#[10]⟩) 189⟩, ⟨PyData.keyHash P (⟨#[95, 81, 85, 79, 80, 82, 73, 95, 77, 65, 80]⟩), .str (⟨#[95, 81, 85, 79, 80, 82, 73, 95, 77, 65, 80]⟩) 1218, .ref 17⟩, ⟨PyData.keyHash P (⟨#[95, 81, 85, 79, 80, 82, 73, 95, 72, 69, 65, 68, 69, 82, 95, 77, 65, 80]⟩), .str (⟨#[95, 81, 85, 79, 80, 82, 73, 95, 72, 69, 65, 68, 69, 82, 95, 77, 65, 80]⟩) 1219, .ref 22⟩, ⟨PyData.keyHash P (⟨#[95, 81, 85, 79, 80, 82, 73, 95, 66, 79, 68, 89, 95, 77, 65, 80]⟩), .str (⟨#[95, 81, 85, 79, 80, 82, 73, 95, 66, 79, 68, 89, 95, 77, 65, 80]⟩) 1220, .ref 24⟩, ⟨PyData.keyHash P (⟨#[97, 115, 99, 105, 105, 95, 108, 111, 119, 101, 114, 99, 97, 115, 101]⟩), .str (⟨#[97, 115, 99, 105, 105, 95, 108, 111, 119, 101, 114, 99, 97, 115, 101]⟩) 1222, .str (⟨#[97, 98, 99, 100, 101, 102, 103, 104, 105, 106, 107, 108, 109, 110, 111, 112, 113, 114, 115, 116, 117, 118, 119, 120, 121, 122]⟩) 1221⟩, ⟨PyData.keyHash P (⟨#[97, 115, 99, 105, 105, 95, 117, 112, 112, 101, 114, 99, 97, 115, 101]⟩), .str (⟨#[97, 115, 99, 105, 105, 95, 117, 112, 112, 101, 114, 99, 97, 115, 101]⟩) 1224, .str (⟨#[65, 66, 67, 68, 69, 70, 71, 72, 73, 74, 75, 76, 77, 78, 79, 80, 81, 82, 83, 84, 85, 86, 87, 88, 89, 90]⟩) 1223⟩, ⟨PyData.keyHash P (⟨#[97, 115, 99, 105, 105, 95, 108, 101, 116, 116, 101, 114, 115]⟩), .str (⟨#[97, 115, 99, 105, 105, 95, 108, 101, 116, 116, 101, 114, 115]⟩) 1226, .str (⟨#[97, 98, 99, 100, 101, 102, 103, 104, 105, 106, 107, 108, 109, 110, 111, 112, 113, 114, 115, 116, 117, 118, 119, 120, 121, 122, 65, 66, 67, 68, 69, 70, 71, 72, 73, 74, 75, 76, 77, 78, 79, 80, 81, 82, 83, 84, 85, 86, 87, 88, 89, 90]⟩) 1225⟩, ⟨PyData.keyHash P (⟨#[100, 105, 103, 105, 116, 115]⟩), .str (⟨#[100, 105, 103, 105, 116, 115]⟩) 1228, .str (⟨#[48, 49, 50, 51, 52, 53, 54, 55, 56, 57]⟩) 1227⟩, ⟨PyData.keyHash P (⟨#[104, 101, 120, 100, 105, 103, 105, 116, 115]⟩), .str (⟨#[104, 101, 120, 100, 105, 103, 105, 116, 115]⟩) 1233, .str (⟨#[48, 49, 50, 51, 52, 53, 54, 55, 56, 57, 97, 98, 99, 100, 101, 102, 65, 66, 67, 68, 69, 70]⟩) 1232⟩, ⟨PyData.keyHash P (⟨#[99]⟩), .str (⟨#[99]⟩) 1244, .int 9 1730⟩] 20, #[]⟩
noncomputable def hdO24v1 (P : Params) : Obj := ⟨.type "list", none, .seq (List.toArray (.str (⟨#[61, 48, 48]⟩) 197 ::
 .str (⟨#[61, 48, 49]⟩) 201 ::
 .str (⟨#[61, 48, 50]⟩) 205 ::
 .str (⟨#[61, 48, 51]⟩) 209 ::
 .str (⟨#[61, 48, 52]⟩) 213 ::
 .str (⟨#[61, 48, 53]⟩) 217 ::
 .str (⟨#[61, 48, 54]⟩) 221 ::
 .str (⟨#[61, 48, 55]⟩) 225 ::
 .str (⟨#[61, 48, 56]⟩) 229 ::
 .str (⟨#[9]⟩) 1732 ::
 .str (⟨#[61, 48, 65]⟩) 237 ::
 .str (⟨#[61, 48, 66]⟩) 241 ::
 .str (⟨#[61, 48, 67]⟩) 245 ::
 .str (⟨#[61, 48, 68]⟩) 249 ::
 .str (⟨#[61, 48, 69]⟩) 253 ::
 .str (⟨#[61, 48, 70]⟩) 257 ::
 .str (⟨#[61, 49, 48]⟩) 261 ::
 .str (⟨#[61, 49, 49]⟩) 265 ::
 .str (⟨#[61, 49, 50]⟩) 269 ::
 .str (⟨#[61, 49, 51]⟩) 273 ::
 .str (⟨#[61, 49, 52]⟩) 277 ::
 .str (⟨#[61, 49, 53]⟩) 281 ::
 .str (⟨#[61, 49, 54]⟩) 285 ::
 .str (⟨#[61, 49, 55]⟩) 289 ::
 .str (⟨#[61, 49, 56]⟩) 293 ::
 .str (⟨#[61, 49, 57]⟩) 297 ::
 .str (⟨#[61, 49, 65]⟩) 301 ::
 .str (⟨#[61, 49, 66]⟩) 305 ::
 .str (⟨#[61, 49, 67]⟩) 309 ::
 .str (⟨#[61, 49, 68]⟩) 313 ::
 .str (⟨#[61, 49, 69]⟩) 317 ::
 .str (⟨#[61, 49, 70]⟩) 321 ::
 .str (⟨#[32]⟩) 1450 ::
 .str (⟨#[33]⟩) 1453 ::
 .str (⟨#[34]⟩) 1456 ::
 .str (⟨#[35]⟩) 1459 ::
 .str (⟨#[36]⟩) 1462 ::
 .str (⟨#[37]⟩) 1465 ::
 .str (⟨#[38]⟩) 1468 ::
 .str (⟨#[39]⟩) 1471 ::
 .str (⟨#[40]⟩) 1474 ::
 .str (⟨#[41]⟩) 1477 ::
 .str (⟨#[42]⟩) 1480 ::
 .str (⟨#[43]⟩) 1483 ::
 .str (⟨#[44]⟩) 1486 ::
 .str (⟨#[45]⟩) 1489 ::
 .str (⟨#[46]⟩) 1492 ::
 .str (⟨#[47]⟩) 1495 ::
 .str (⟨#[48]⟩) 1498 ::
 .str (⟨#[49]⟩) 1501 ::
 .str (⟨#[50]⟩) 1504 ::
 .str (⟨#[51]⟩) 1507 ::
 .str (⟨#[52]⟩) 1510 ::
 .str (⟨#[53]⟩) 1513 ::
 .str (⟨#[54]⟩) 1516 ::
 .str (⟨#[55]⟩) 1519 ::
 .str (⟨#[56]⟩) 1522 ::
 .str (⟨#[57]⟩) 1525 ::
 .str (⟨#[58]⟩) 1528 ::
 .str (⟨#[59]⟩) 1531 ::
 .str (⟨#[60]⟩) 1534 ::
 .str (⟨#[61, 51, 68]⟩) 441 ::
 .str (⟨#[62]⟩) 1537 ::
 .str (⟨#[63]⟩) 1540 ::
 .str (⟨#[64]⟩) 1543 ::
 .str (⟨#[65]⟩) 1546 ::
 .str (⟨#[66]⟩) 1549 ::
 .str (⟨#[67]⟩) 1552 ::
 .str (⟨#[68]⟩) 1555 ::
 .str (⟨#[69]⟩) 1558 ::
 .str (⟨#[70]⟩) 1561 ::
 .str (⟨#[71]⟩) 1564 ::
 .str (⟨#[72]⟩) 1567 ::
 .str (⟨#[73]⟩) 1570 ::
 .str (⟨#[74]⟩) 1573 ::
 .str (⟨#[75]⟩) 1576 ::
 .str (⟨#[76]⟩) 1579 ::
 .str (⟨#[77]⟩) 1582 ::
 .str (⟨#[78]⟩) 1585 ::
 .str (⟨#[79]⟩) 1588 ::
 .str (⟨#[80]⟩) 1591 ::
 .str (⟨#[81]⟩) 1594 ::
 .str (⟨#[82]⟩) 1597 ::
 .str (⟨#[83]⟩) 1600 ::
 .str (⟨#[84]⟩) 1603 ::
 .str (⟨#[85]⟩) 1606 ::
 .str (⟨#[86]⟩) 1609 ::
 .str (⟨#[87]⟩) 1612 ::
 .str (⟨#[88]⟩) 1615 ::
 .str (⟨#[89]⟩) 1618 ::
 .str (⟨#[90]⟩) 1621 ::
 .str (⟨#[91]⟩) 1624 ::
 .str (⟨#[92]⟩) 1627 ::
 .str (⟨#[93]⟩) 1630 ::
 .str (⟨#[94]⟩) 1633 ::
 .str (⟨#[95]⟩) 1636 ::
 .str (⟨#[96]⟩) 1639 ::
 .str (⟨#[97]⟩) 1642 ::
 .str (⟨#[98]⟩) 1645 ::
 .str (⟨#[99]⟩) 1648 ::
 .str (⟨#[100]⟩) 1651 ::
 .str (⟨#[101]⟩) 1654 ::
 .str (⟨#[102]⟩) 1657 ::
 .str (⟨#[103]⟩) 1660 ::
 .str (⟨#[104]⟩) 1663 ::
 .str (⟨#[105]⟩) 1666 ::
 .str (⟨#[106]⟩) 1669 ::
 .str (⟨#[107]⟩) 1672 ::
 .str (⟨#[108]⟩) 1675 ::
 .str (⟨#[109]⟩) 1678 ::
 .str (⟨#[110]⟩) 1681 ::
 .str (⟨#[111]⟩) 1684 ::
 .str (⟨#[112]⟩) 1687 ::
 .str (⟨#[113]⟩) 1690 ::
 .str (⟨#[114]⟩) 1693 ::
 .str (⟨#[115]⟩) 1696 ::
 .str (⟨#[116]⟩) 1699 ::
 .str (⟨#[117]⟩) 1702 ::
 .str (⟨#[118]⟩) 1705 ::
 .str (⟨#[119]⟩) 1708 ::
 .str (⟨#[120]⟩) 1711 ::
 .str (⟨#[121]⟩) 1714 ::
 .str (⟨#[122]⟩) 1717 ::
 .str (⟨#[123]⟩) 1720 ::
 .str (⟨#[124]⟩) 1723 ::
 .str (⟨#[125]⟩) 1726 ::
 .str (⟨#[126]⟩) 1729 ::
 .str (⟨#[61, 55, 70]⟩) 705 ::
 .str (⟨#[61, 56, 48]⟩) 709 ::
 .str (⟨#[61, 56, 49]⟩) 713 ::
 .str (⟨#[61, 56, 50]⟩) 717 ::
 .str (⟨#[61, 56, 51]⟩) 721 ::
 .str (⟨#[61, 56, 52]⟩) 725 ::
 .str (⟨#[61, 56, 53]⟩) 729 ::
 .str (⟨#[61, 56, 54]⟩) 733 ::
 .str (⟨#[61, 56, 55]⟩) 737 ::
 .str (⟨#[61, 56, 56]⟩) 741 ::
 .str (⟨#[61, 56, 57]⟩) 745 ::
 .str (⟨#[61, 56, 65]⟩) 749 ::
 .str (⟨#[61, 56, 66]⟩) 753 ::
 .str (⟨#[61, 56, 67]⟩) 757 ::
 .str (⟨#[61, 56, 68]⟩) 761 ::
 .str (⟨#[61, 56, 69]⟩) 765 ::
 .str (⟨#[61, 56, 70]⟩) 769 ::
 .str (⟨#[61, 57, 48]⟩) 773 ::
 .str (⟨#[61, 57, 49]⟩) 777 ::
 .str (⟨#[61, 57, 50]⟩) 781 ::
 .str (⟨#[61, 57, 51]⟩) 785 ::
 .str (⟨#[61, 57, 52]⟩) 789 ::
 .str (⟨#[61, 57, 53]⟩) 793 ::
 .str (⟨#[61, 57, 54]⟩) 797 ::
 .str (⟨#[61, 57, 55]⟩) 801 ::
 .str (⟨#[61, 57, 56]⟩) 805 ::
 .str (⟨#[61, 57, 57]⟩) 809 ::
 .str (⟨#[61, 57, 65]⟩) 813 ::
 .str (⟨#[61, 57, 66]⟩) 817 ::
 .str (⟨#[61, 57, 67]⟩) 821 ::
 .str (⟨#[61, 57, 68]⟩) 825 ::
 .str (⟨#[61, 57, 69]⟩) 829 ::
 .str (⟨#[61, 57, 70]⟩) 833 ::
 .str (⟨#[61, 65, 48]⟩) 837 ::
 .str (⟨#[61, 65, 49]⟩) 841 ::
 .str (⟨#[61, 65, 50]⟩) 845 ::
 .str (⟨#[61, 65, 51]⟩) 849 ::
 .str (⟨#[61, 65, 52]⟩) 853 ::
 .str (⟨#[61, 65, 53]⟩) 857 ::
 .str (⟨#[61, 65, 54]⟩) 861 ::
 .str (⟨#[61, 65, 55]⟩) 865 ::
 .str (⟨#[61, 65, 56]⟩) 869 ::
 .str (⟨#[61, 65, 57]⟩) 873 ::
 .str (⟨#[61, 65, 65]⟩) 877 ::
 .str (⟨#[61, 65, 66]⟩) 881 ::
 .str (⟨#[61, 65, 67]⟩) 885 ::
 .str (⟨#[61, 65, 68]⟩) 889 ::
 .str (⟨#[61, 65, 69]⟩) 893 ::
 .str (⟨#[61, 65, 70]⟩) 897 ::
 .str (⟨#[61, 66, 48]⟩) 901 ::
 .str (⟨#[61, 66, 49]⟩) 905 ::
 .str (⟨#[61, 66, 50]⟩) 909 ::
 .str (⟨#[61, 66, 51]⟩) 913 ::
 .str (⟨#[61, 66, 52]⟩) 917 ::
 .str (⟨#[61, 66, 53]⟩) 921 ::
 .str (⟨#[61, 66, 54]⟩) 925 ::
 .str (⟨#[61, 66, 55]⟩) 929 ::
 .str (⟨#[61, 66, 56]⟩) 933 ::
 .str (⟨#[61, 66, 57]⟩) 937 ::
 .str (⟨#[61, 66, 65]⟩) 941 ::
 .str (⟨#[61, 66, 66]⟩) 945 ::
 .str (⟨#[61, 66, 67]⟩) 949 ::
 .str (⟨#[61, 66, 68]⟩) 953 ::
 .str (⟨#[61, 66, 69]⟩) 957 ::
 .str (⟨#[61, 66, 70]⟩) 961 ::
 .str (⟨#[61, 67, 48]⟩) 965 ::
 .str (⟨#[61, 67, 49]⟩) 969 ::
 .str (⟨#[61, 67, 50]⟩) 973 ::
 .str (⟨#[61, 67, 51]⟩) 977 ::
 .str (⟨#[61, 67, 52]⟩) 981 ::
 .str (⟨#[61, 67, 53]⟩) 985 ::
 .str (⟨#[61, 67, 54]⟩) 989 ::
 .str (⟨#[61, 67, 55]⟩) 993 ::
 .str (⟨#[61, 67, 56]⟩) 997 ::
 .str (⟨#[61, 67, 57]⟩) 1001 ::
 .str (⟨#[61, 67, 65]⟩) 1005 ::
 .str (⟨#[61, 67, 66]⟩) 1009 ::
 .str (⟨#[61, 67, 67]⟩) 1013 ::
 .str (⟨#[61, 67, 68]⟩) 1017 ::
 .str (⟨#[61, 67, 69]⟩) 1021 ::
 .str (⟨#[61, 67, 70]⟩) 1025 ::
 .str (⟨#[61, 68, 48]⟩) 1029 ::
 .str (⟨#[61, 68, 49]⟩) 1033 ::
 .str (⟨#[61, 68, 50]⟩) 1037 ::
 .str (⟨#[61, 68, 51]⟩) 1041 ::
 .str (⟨#[61, 68, 52]⟩) 1045 ::
 .str (⟨#[61, 68, 53]⟩) 1049 ::
 .str (⟨#[61, 68, 54]⟩) 1053 ::
 .str (⟨#[61, 68, 55]⟩) 1057 ::
 .str (⟨#[61, 68, 56]⟩) 1061 ::
 .str (⟨#[61, 68, 57]⟩) 1065 ::
 .str (⟨#[61, 68, 65]⟩) 1069 ::
 .str (⟨#[61, 68, 66]⟩) 1073 ::
 .str (⟨#[61, 68, 67]⟩) 1077 ::
 .str (⟨#[61, 68, 68]⟩) 1081 ::
 .str (⟨#[61, 68, 69]⟩) 1085 ::
 .str (⟨#[61, 68, 70]⟩) 1089 ::
 .str (⟨#[61, 69, 48]⟩) 1093 ::
 .str (⟨#[61, 69, 49]⟩) 1097 ::
 .str (⟨#[61, 69, 50]⟩) 1101 ::
 .str (⟨#[61, 69, 51]⟩) 1105 ::
 .str (⟨#[61, 69, 52]⟩) 1109 ::
 .str (⟨#[61, 69, 53]⟩) 1113 ::
 .str (⟨#[61, 69, 54]⟩) 1117 ::
 .str (⟨#[61, 69, 55]⟩) 1121 ::
 .str (⟨#[61, 69, 56]⟩) 1125 ::
 .str (⟨#[61, 69, 57]⟩) 1129 ::
 .str (⟨#[61, 69, 65]⟩) 1133 ::
 .str (⟨#[61, 69, 66]⟩) 1137 ::
 .str (⟨#[61, 69, 67]⟩) 1141 ::
 .str (⟨#[61, 69, 68]⟩) 1145 ::
 .str (⟨#[61, 69, 69]⟩) 1149 ::
 .str (⟨#[61, 69, 70]⟩) 1153 ::
 .str (⟨#[61, 70, 48]⟩) 1157 ::
 .str (⟨#[61, 70, 49]⟩) 1161 ::
 .str (⟨#[61, 70, 50]⟩) 1165 ::
 .str (⟨#[61, 70, 51]⟩) 1169 ::
 .str (⟨#[61, 70, 52]⟩) 1173 ::
 .str (⟨#[61, 70, 53]⟩) 1177 ::
 .str (⟨#[61, 70, 54]⟩) 1181 ::
 .str (⟨#[61, 70, 55]⟩) 1185 ::
 .str (⟨#[61, 70, 56]⟩) 1189 ::
 .str (⟨#[61, 70, 57]⟩) 1193 ::
 .str (⟨#[61, 70, 65]⟩) 1197 ::
 .str (⟨#[61, 70, 66]⟩) 1201 ::
 .str (⟨#[61, 70, 67]⟩) 1205 ::
 .str (⟨#[61, 70, 68]⟩) 1209 ::
 .str (⟨#[61, 70, 69]⟩) 1213 ::
 .str (⟨#[61, 70, 70]⟩) 1217 ::
 [])) 0, #[]⟩
noncomputable def hdO28v1 (P : Params) : Obj := ⟨.type "bytes_iterator", none, .fields #[.none, .int 95 0], #[]⟩
noncomputable def hdO29v0 (P : Params) : Obj := ⟨.type "tuple", none, .seq #[] 0, #[]⟩
noncomputable def hdO30v0 (P : Params) : Obj := ⟨.type "StopIteration", none, .fields #[.ref 29, .none, .none, .none, .bool false, .none], #[]⟩
noncomputable def hdS5t (P : Params) : BT := (.node (PySem.W.boot_o_0 P) (.node (PySem.W.boot_o_1 P) (.node (hdO3v5 P) (.node (PySem.W.boot_o_7 P) (.node (hdO15v1 P) .nil .nil) (.node (hdO23v0 P) .nil .nil)) (.node (hdO11v0 P) (.node (hdO19v0 P) .nil .nil) (.node (hdO27v0 P) .nil .nil))) (.node (PySem.W.boot_o_5 P) (.node (PySem.W.boot_o_9 P) (.node (hdO17v1 P) .nil .nil) (.node (hdO25v0 P) .nil .nil)) (.node (hdO13v0 P) (.node (hdO21v0 P) .nil .nil) (.node (hdO29v0 P) .nil .nil)))) (.node (PySem.W.boot_o_2 P) (.node (PySem.W.boot_o_4 P) (.node (PySem.W.boot_o_8 P) (.node (hdO16v1 P) .nil .nil) (.node (hdO24v1 P) .nil .nil)) (.node (hdO12v0 P) (.node (hdO20v0 P) .nil .nil) (.node (hdO28v1 P) .nil .nil))) (.node (PySem.W.boot_o_6 P) (.node (PySem.W.boot_o_10 P) (.node (hdO18v1 P) .nil .nil) (.node (hdO26v0 P) .nil .nil)) (.node (hdO14v0 P) (.node (hdO22v2 P) .nil .nil) (.node (hdO30v0 P) .nil .nil)))))
noncomputable def hdS5 (w : World) (os : OsState) : SharedT := ⟨hdS5t w.params, 31, {}, #[], ⟨0, 0, 0, 0⟩, 1733, os⟩
theorem hdL5 (w : World) (os : OsState) : hdRun w 4293 (hdS5c w os) (hdT5 w os) = some (.next, hdS5 w os, hdC, ⟨15, 9, 15, 110⟩) := by kernel_rfl
theorem hdR5ff (w : World) (os : OsState) : hdRunS (w.withFollow "special-get-raises" false) 4303 (hdS4 (w.withFollow "special-get-raises" false) os).abs (piecesOf (hdSts 13 1) hdEnv hdC ⟨14, 0, 14, 28⟩ hdF) = some (.next, (hdS5 (w.withFollow "special-get-raises" false) os).abs, hdC, ⟨15, 9, 15, 110⟩) := hdMono (n := 10 + 4293) (by decide) (seg_go (hdOfG (hdC5ff w os)) (hdOfT (hdL5 (w.withFollow "special-get-raises" false) os)))
theorem hdR5ft (w : World) (os : OsState) : hdRunS (w.withFollow "special-get-raises" true) 4303 (hdS4 (w.withFollow "special-get-raises" true) os).abs (piecesOf (hdSts 13 1) hdEnv hdC ⟨14, 0, 14, 28⟩ hdF) = some (.next, (hdS5 (w.withFollow "special-get-raises" true) os).abs, hdC, ⟨15, 9, 15, 110⟩) := hdMono (n := 10 + 4293) (by decide) (seg_go (hdOfG (hdC5ft w os)) (hdOfT (hdL5 (w.withFollow "special-get-raises" true) os)))
theorem hdR5 (w : World) (os : OsState) : hdRunS w 4303 (hdS4 w os).abs (piecesOf (hdSts 13 1) hdEnv hdC ⟨14, 0, 14, 28⟩ hdF) = some (.next, (hdS5 w os).abs, hdC, ⟨15, 9, 15, 110⟩) := hdBy "special-get-raises" (P := fun w => hdRunS w 4303 (hdS4 w os).abs (piecesOf (hdSts 13 1) hdEnv hdC ⟨14, 0, 14, 28⟩ hdF) = some (.next, (hdS5 w os).abs, hdC, ⟨15, 9, 15, 110⟩)) (hdR5ff w os) (hdR5ft w os)
noncomputable def hdO3v6 (P : Params) : Obj := ⟨.type "dict", none, .dict #[⟨PyData.keyHash P (⟨#[95, 95, 110, 97, 109, 101, 95, 95]⟩), .str (⟨#[95, 95, 110, 97, 109, 101, 95, 95]⟩) 165, .str (⟨#[99, 112, 121, 51, 49, 51, 46, 101, 109, 97, 105, 108, 46, 113, 117, 111, 112, 114, 105, 109, 105, 109, 101]⟩) 1234⟩, ⟨PyData.keyHash P (⟨#[95, 95, 100, 111, 99, 95, 95]⟩), .str (⟨#[95, 95, 100, 111, 99, 95, 95]⟩) 166, .none⟩, ⟨PyData.keyHash P (⟨#[95, 95, 112, 97, 99, 107, 97, 103, 101, 95, 95]⟩), .str (⟨#[95, 95, 112, 97, 99, 107, 97, 103, 101, 95, 95]⟩) 167, .none⟩, ⟨PyData.keyHash P (⟨#[95, 95, 108, 111, 97, 100, 101, 114, 95, 95]⟩), .str (⟨#[95, 95, 108, 111, 97, 100, 101, 114, 95, 95]⟩) 168, .builtin "__main__.__loader__#opaque"⟩, ⟨PyData.keyHash P (⟨#[95, 95, 115, 112, 101, 99, 95, 95]⟩), .str (⟨#[95, 95, 115, 112, 101, 99, 95, 95]⟩) 169, .none⟩, ⟨PyData.keyHash P (⟨#[95, 95, 97, 110, 110, 111, 116, 97, 116, 105, 111, 110, 115, 95, 95]⟩), .str (⟨#[95, 95, 97, 110, 110, 111, 116, 97, 116, 105, 111, 110, 115, 95, 95]⟩) 170, .ref 6⟩, ⟨PyData.keyHash P (⟨#[95, 95, 98, 117, 105, 108, 116, 105, 110, 115, 95, 95]⟩), .str (⟨#[95, 95, 98, 117, 105, 108, 116, 105, 110, 115, 95, 95]⟩) 171, .ref 4⟩, ⟨PyData.keyHash P (⟨#[95, 95, 102, 105, 108, 101, 95, 95]⟩), .str (⟨#[95, 95, 102, 105, 108, 101, 95, 95]⟩) 173, .str (⟨#[47, 99, 108, 97, 105, 109, 47, 99, 117, 116, 46, 112, 121]⟩) 172⟩, ⟨PyData.keyHash P (⟨#[95, 95, 99, 97, 99, 104, 101, 100, 95, 95]⟩), .str (⟨#[95, 95, 99, 97, 99, 104, 101, 100, 95, 95]⟩) 174, .none⟩, ⟨PyData.keyHash P (⟨#[67, 82, 76, 70]⟩), .str (⟨#[67, 82, 76, 70]⟩) 188, .str (⟨#[13, 10]⟩) 187⟩, ⟨PyData.keyHash P (⟨#[78, 76]⟩), .str (⟨#[78, 76]⟩) 190, .str (⟨#[10]⟩) 189⟩, ⟨PyData.keyHash P (⟨#[95, 81, 85, 79, 80, 82, 73, 95, 77, 65, 80]⟩), .str (⟨#[95, 81, 85, 79, 80, 82, 73, 95, 77, 65, 80]⟩) 1218, .ref 17⟩, ⟨PyData.keyHash P (⟨#[95, 81, 85, 79, 80, 82, 73, 95, 72, 69, 65, 68, 69, 82, 95, 77, 65, 80]⟩), .str (⟨#[95, 81, 85, 79, 80, 82, 73, 95, 72, 69, 65, 68, 69, 82, 95, 77, 65, 80]⟩) 1219, .ref 22⟩, ⟨PyData.keyHash P (⟨#[95, 81, 85, 79, 80, 82, 73, 95, 66, 79, 68, 89, 95, 77, 65, 80]⟩), .str (⟨#[95, 81, 85, 79, 80, 82, 73, 95, 66, 79, 68, 89, 95, 77, 65, 80]⟩) 1220, .ref 24⟩, ⟨PyData.keyHash P (⟨#[97, 115, 99, 105, 105, 95, 108, 111, 119, 101, 114, 99, 97, 115, 101]⟩), .str (⟨#[97, 115, 99, 105, 105, 95, 108, 111, 119, 101, 114, 99, 97, 115, 101]⟩) 1222, .str (⟨#[97, 98, 99, 100, 101, 102, 103, 104, 105, 106, 107, 108, 109, 110, 111, 112, 113, 114, 115, 116, 117, 118, 119, 120, 121, 122]⟩) 1221⟩, ⟨PyData.keyHash P (⟨#[97, 115, 99, 105, 105, 95, 117, 112, 112, 101, 114, 99, 97, 115, 101]⟩), .str (⟨#[97, 115, 99, 105, 105, 95, 117, 112, 112, 101, 114, 99, 97, 115, 101]⟩) 1224, .str (⟨#[65, 66, 67, 68, 69, 70, 71, 72, 73, 74, 75, 76, 77, 78, 79, 80, 81, 82, 83, 84, 85, 86, 87, 88, 89, 90]⟩) 1223⟩, ⟨PyData.keyHash P (⟨#[97, 115, 99, 105, 105, 95, 108, 101, 116, 116, 101, 114, 115]⟩), .str (⟨#[97, 115, 99, 105, 105, 95, 108, 101, 116, 116, 101, 114, 115]⟩) 1226, .str (⟨#[97, 98, 99, 100, 101, 102, 103, 104, 105, 106, 107, 108, 109, 110, 111, 112, 113, 114, 115, 116, 117, 118, 119, 120, 121, 122, 65, 66, 67, 68, 69, 70, 71, 72, 73, 74, 75, 76, 77, 78, 79, 80, 81, 82, 83, 84, 85, 86, 87, 88, 89, 90]⟩) 1225⟩, ⟨PyData.keyHash P (⟨#[100, 105, 103, 105, 116, 115]⟩), .str (⟨#[100, 105, 103, 105, 116, 115]⟩) 1228, .str (⟨#[48, 49, 50, 51, 52, 53, 54, 55, 56, 57]⟩) 1227⟩, ⟨PyData.keyHash P (⟨#[104, 101, 120, 100, 105, 103, 105, 116, 115]⟩), .str (⟨#[104, 101, 120, 100, 105, 103, 105, 116, 115]⟩) 1233, .str (⟨#[48, 49, 50, 51, 52, 53, 54, 55, 56, 57, 97, 98, 99, 100, 101, 102, 65, 66, 67, 68, 69, 70]⟩) 1232⟩, ⟨PyData.keyHash P (⟨#[99]⟩), .str (⟨#[99]⟩) 1244, .int 9 1730⟩, ⟨PyData.keyHash P (⟨#[117, 110, 113, 117, 111, 116, 101]⟩), .str (⟨#[117, 110, 113, 117, 111, 116, 101]⟩) 1739, .ref 37⟩, ⟨PyData.keyHash P (⟨#[113, 117, 111, 116, 101]⟩), .str (⟨#[113, 117, 111, 116, 101]⟩) 1746, .ref 44⟩, ⟨PyData.keyHash P (⟨#[95, 81, 85, 79, 80, 82, 73, 95, 66, 79, 68, 89, 95, 69, 78, 67, 79, 68, 69, 95, 77, 65, 80]⟩), .str (⟨#[95, 81, 85, 79, 80, 82, 73, 95, 66, 79, 68, 89, 95, 69, 78, 67, 79, 68, 69, 95, 77, 65, 80]⟩) 1747, .ref 46⟩] 23, #[]⟩
noncomputable def hdO12v1 (P : Params) : Obj := ⟨.none, none, .fields #[.int 17 0, .int 0 0, .ref 36, .int 19 0, .int 0 0, .ref 43], #[]⟩
noncomputable def hdO31v0 (P : Params) : Obj := ⟨.type "tuple", none, .seq #[] 0, #[]⟩
noncomputable def hdO32v0 (P : Params) : Obj := ⟨.none, none, .fields #[], #[]⟩
noncomputable def hdO33v0 (P : Params) : Obj := ⟨.type "tuple", none, .seq #[.str (⟨#[115]⟩) 1736] 0, #[]⟩
noncomputable def hdO34v0 (P : Params) : Obj := ⟨.type "tuple", none, .seq #[] 0, #[]⟩
noncomputable def hdO35v0 (P : Params) : Obj := hdFn 14 (.none) 0 (.none) (.none) (.none) (.none) (.none)
noncomputable def hdO36v0 (P : Params) : Obj := ⟨.type "code", none, .fields #[.str (⟨#[117, 110, 113, 117, 111, 116, 101]⟩) 1733, .str (⟨#[117, 110, 113, 117, 111, 116, 101]⟩) 1734, .str (⟨#[47, 99, 108, 97, 105, 109, 47, 99, 117, 116, 46, 112, 121]⟩) 1735, .int 17 0, .int 1 0, .int 0 0, .int 0 0, .int 3 0, .ref 31, .bool true, .int 181 0, .ref 32, .none, .ref 33, .ref 34, .ref 35, .int 1737 0, .int 17 0, .str (⟨#[47, 99, 108, 97, 105, 109, 47, 99, 117, 116, 46, 112, 121]⟩) 1738], #[]⟩
noncomputable def hdO37v0 (P : Params) : Obj := hdFn 14 (.type "function") 3 (.none) (.none) (.none) (.str (⟨#[99, 112, 121, 51, 49, 51, 46, 101, 109, 97, 105, 108, 46, 113, 117, 111, 112, 114, 105, 109, 105, 109, 101]⟩) 1234) (.ref 36)
noncomputable def hdO38v0 (P : Params) : Obj := ⟨.type "tuple", none, .seq #[] 0, #[]⟩
noncomputable def hdO39v0 (P : Params) : Obj := ⟨.none, none, .fields #[], #[]⟩
noncomputable def hdO40v0 (P : Params) : Obj := ⟨.type "tuple", none, .seq #[.str (⟨#[99]⟩) 1743] 0, #[]⟩
noncomputable def hdO41v0 (P : Params) : Obj := ⟨.type "tuple", none, .seq #[] 0, #[]⟩
noncomputable def hdO42v0 (P : Params) : Obj := hdFn 15 (.none) 0 (.none) (.none) (.none) (.none) (.none)
noncomputable def hdO43v0 (P : Params) : Obj := ⟨.type "code", none, .fields #[.str (⟨#[113, 117, 111, 116, 101]⟩) 1740, .str (⟨#[113, 117, 111, 116, 101]⟩) 1741, .str (⟨#[47, 99, 108, 97, 105, 109, 47, 99, 117, 116, 46, 112, 121]⟩) 1742, .int 19 0, .int 1 0, .int 0 0, .int 0 0, .int 3 0, .ref 38, .bool true, .int 181 0, .ref 39, .none, .ref 40, .ref 41, .ref 42, .int 1744 0, .int 19 0, .str (⟨#[47, 99, 108, 97, 105, 109, 47, 99, 117, 116, 46, 112, 121]⟩) 1745], #[]⟩
noncomputable def hdO44v0 (P : Params) : Obj := hdFn 15 (.type "function") 3 (.none) (.none) (.none) (.str (⟨#[99, 112, 121, 51, 49, 51, 46, 101, 109, 97, 105, 108, 46, 113, 117, 111, 112, 114, 105, 109, 105, 109, 101]⟩) 1234) (.ref 43)
noncomputable def hdO45v0 (P : Params) : Obj := ⟨.type "slice", none, .fields #[.none, .none, .none], #[]⟩
noncomputable def hdO46v0 (P : Params) : Obj := ⟨.type "list", none, .seq (List.toArray (.str (⟨#[61, 48, 48]⟩) 197 ::
 .str (⟨#[61, 48, 49]⟩) 201 ::
 .str (⟨#[61, 48, 50]⟩) 205 ::
 .str (⟨#[61, 48, 51]⟩) 209 ::
 .str (⟨#[61, 48, 52]⟩) 213 ::
 .str (⟨#[61, 48, 53]⟩) 217 ::
 .str (⟨#[61, 48, 54]⟩) 221 ::
 .str (⟨#[61, 48, 55]⟩) 225 ::
 .str (⟨#[61, 48, 56]⟩) 229 ::
 .str (⟨#[9]⟩) 1732 ::
 .str (⟨#[61, 48, 65]⟩) 237 ::
 .str (⟨#[61, 48, 66]⟩) 241 ::
 .str (⟨#[61, 48, 67]⟩) 245 ::
 .str (⟨#[61, 48, 68]⟩) 249 ::
 .str (⟨#[61, 48, 69]⟩) 253 ::
 .str (⟨#[61, 48, 70]⟩) 257 ::
 .str (⟨#[61, 49, 48]⟩) 261 ::
 .str (⟨#[61, 49, 49]⟩) 265 ::
 .str (⟨#[61, 49, 50]⟩) 269 ::
 .str (⟨#[61, 49, 51]⟩) 273 ::
 .str (⟨#[61, 49, 52]⟩) 277 ::
 .str (⟨#[61, 49, 53]⟩) 281 ::
 .str (⟨#[61, 49, 54]⟩) 285 ::
 .str (⟨#[61, 49, 55]⟩) 289 ::
 .str (⟨#[61, 49, 56]⟩) 293 ::
 .str (⟨#[61, 49, 57]⟩) 297 ::
 .str (⟨#[61, 49, 65]⟩) 301 ::
 .str (⟨#[61, 49, 66]⟩) 305 ::
 .str (⟨#[61, 49, 67]⟩) 309 ::
 .str (⟨#[61, 49, 68]⟩) 313 ::
 .str (⟨#[61, 49, 69]⟩) 317 ::
 .str (⟨#[61, 49, 70]⟩) 321 ::
 .str (⟨#[32]⟩) 1450 ::
 .str (⟨#[33]⟩) 1453 ::
 .str (⟨#[34]⟩) 1456 ::
 .str (⟨#[35]⟩) 1459 ::
 .str (⟨#[36]⟩) 1462 ::
 .str (⟨#[37]⟩) 1465 ::
 .str (⟨#[38]⟩) 1468 ::
 .str (⟨#[39]⟩) 1471 ::
 .str (⟨#[40]⟩) 1474 ::
 .str (⟨#[41]⟩) 1477 ::
 .str (⟨#[42]⟩) 1480 ::
 .str (⟨#[43]⟩) 1483 ::
 .str (⟨#[44]⟩) 1486 ::
 .str (⟨#[45]⟩) 1489 ::
 .str (⟨#[46]⟩) 1492 ::
 .str (⟨#[47]⟩) 1495 ::
 .str (⟨#[48]⟩) 1498 ::
 .str (⟨#[49]⟩) 1501 ::
 .str (⟨#[50]⟩) 1504 ::
 .str (⟨#[51]⟩) 1507 ::
 .str (⟨#[52]⟩) 1510 ::
 .str (⟨#[53]⟩) 1513 ::
 .str (⟨#[54]⟩) 1516 ::
 .str (⟨#[55]⟩) 1519 ::
 .str (⟨#[56]⟩) 1522 ::
 .str (⟨#[57]⟩) 1525 ::
 .str (⟨#[58]⟩) 1528 ::
 .str (⟨#[59]⟩) 1531 ::
 .str (⟨#[60]⟩) 1534 ::
 .str (⟨#[61, 51, 68]⟩) 441 ::
 .str (⟨#[62]⟩) 1537 ::
 .str (⟨#[63]⟩) 1540 ::
 .str (⟨#[64]⟩) 1543 ::
 .str (⟨#[65]⟩) 1546 ::
 .str (⟨#[66]⟩) 1549 ::
 .str (⟨#[67]⟩) 1552 ::
 .str (⟨#[68]⟩) 1555 ::
 .str (⟨#[69]⟩) 1558 ::
 .str (⟨#[70]⟩) 1561 ::
 .str (⟨#[71]⟩) 1564 ::
 .str (⟨#[72]⟩) 1567 ::
 .str (⟨#[73]⟩) 1570 ::
 .str (⟨#[74]⟩) 1573 ::
 .str (⟨#[75]⟩) 1576 ::
 .str (⟨#[76]⟩) 1579 ::
 .str (⟨#[77]⟩) 1582 ::
 .str (⟨#[78]⟩) 1585 ::
 .str (⟨#[79]⟩) 1588 ::
 .str (⟨#[80]⟩) 1591 ::
 .str (⟨#[81]⟩) 1594 ::
 .str (⟨#[82]⟩) 1597 ::
 .str (⟨#[83]⟩) 1600 ::
 .str (⟨#[84]⟩) 1603 ::
 .str (⟨#[85]⟩) 1606 ::
 .str (⟨#[86]⟩) 1609 ::
 .str (⟨#[87]⟩) 1612 ::
 .str (⟨#[88]⟩) 1615 ::
 .str (⟨#[89]⟩) 1618 ::
 .str (⟨#[90]⟩) 1621 ::
 .str (⟨#[91]⟩) 1624 ::
 .str (⟨#[92]⟩) 1627 ::
 .str (⟨#[93]⟩) 1630 ::
 .str (⟨#[94]⟩) 1633 ::
 .str (⟨#[95]⟩) 1636 ::
 .str (⟨#[96]⟩) 1639 ::
 .str (⟨#[97]⟩) 1642 ::
 .str (⟨#[98]⟩) 1645 ::
 .str (⟨#[99]⟩) 1648 ::
 .str (⟨#[100]⟩) 1651 ::
 .str (⟨#[101]⟩) 1654 ::
 .str (⟨#[102]⟩) 1657 ::
 .str (⟨#[103]⟩) 1660 ::
 .str (⟨#[104]⟩) 1663 ::
 .str (⟨#[105]⟩) 1666 ::
 .str (⟨#[106]⟩) 1669 ::
 .str (⟨#[107]⟩) 1672 ::
 .str (⟨#[108]⟩) 1675 ::
 .str (⟨#[109]⟩) 1678 ::
 .str (⟨#[110]⟩) 1681 ::
 .str (⟨#[111]⟩) 1684 ::
 .str (⟨#[112]⟩) 1687 ::
 .str (⟨#[113]⟩) 1690 ::
 .str (⟨#[114]⟩) 1693 ::
 .str (⟨#[115]⟩) 1696 ::
 .str (⟨#[116]⟩) 1699 ::
 .str (⟨#[117]⟩) 1702 ::
 .str (⟨#[118]⟩) 1705 ::
 .str (⟨#[119]⟩) 1708 ::
 .str (⟨#[120]⟩) 1711 ::
 .str (⟨#[121]⟩) 1714 ::
 .str (⟨#[122]⟩) 1717 ::
 .str (⟨#[123]⟩) 1720 ::
 .str (⟨#[124]⟩) 1723 ::
 .str (⟨#[125]⟩) 1726 ::
 .str (⟨#[126]⟩) 1729 ::
 .str (⟨#[61, 55, 70]⟩) 705 ::
 .str (⟨#[61, 56, 48]⟩) 709 ::
 .str (⟨#[61, 56, 49]⟩) 713 ::
 .str (⟨#[61, 56, 50]⟩) 717 ::
 .str (⟨#[61, 56, 51]⟩) 721 ::
 .str (⟨#[61, 56, 52]⟩) 725 ::
 .str (⟨#[61, 56, 53]⟩) 729 ::
 .str (⟨#[61, 56, 54]⟩) 733 ::
 .str (⟨#[61, 56, 55]⟩) 737 ::
 .str (⟨#[61, 56, 56]⟩) 741 ::
 .str (⟨#[61, 56, 57]⟩) 745 ::
 .str (⟨#[61, 56, 65]⟩) 749 ::
 .str (⟨#[61, 56, 66]⟩) 753 ::
 .str (⟨#[61, 56, 67]⟩) 757 ::
 .str (⟨#[61, 56, 68]⟩) 761 ::
 .str (⟨#[61, 56, 69]⟩) 765 ::
 .str (⟨#[61, 56, 70]⟩) 769 ::
 .str (⟨#[61, 57, 48]⟩) 773 ::
 .str (⟨#[61, 57, 49]⟩) 777 ::
 .str (⟨#[61, 57, 50]⟩) 781 ::
 .str (⟨#[61, 57, 51]⟩) 785 ::
 .str (⟨#[61, 57, 52]⟩) 789 ::
 .str (⟨#[61, 57, 53]⟩) 793 ::
 .str (⟨#[61, 57, 54]⟩) 797 ::
 .str (⟨#[61, 57, 55]⟩) 801 ::
 .str (⟨#[61, 57, 56]⟩) 805 ::
 .str (⟨#[61, 57, 57]⟩) 809 ::
 .str (⟨#[61, 57, 65]⟩) 813 ::
 .str (⟨#[61, 57, 66]⟩) 817 ::
 .str (⟨#[61, 57, 67]⟩) 821 ::
 .str (⟨#[61, 57, 68]⟩) 825 ::
 .str (⟨#[61, 57, 69]⟩) 829 ::
 .str (⟨#[61, 57, 70]⟩) 833 ::
 .str (⟨#[61, 65, 48]⟩) 837 ::
 .str (⟨#[61, 65, 49]⟩) 841 ::
 .str (⟨#[61, 65, 50]⟩) 845 ::
 .str (⟨#[61, 65, 51]⟩) 849 ::
 .str (⟨#[61, 65, 52]⟩) 853 ::
 .str (⟨#[61, 65, 53]⟩) 857 ::
 .str (⟨#[61, 65, 54]⟩) 861 ::
 .str (⟨#[61, 65, 55]⟩) 865 ::
 .str (⟨#[61, 65, 56]⟩) 869 ::
 .str (⟨#[61, 65, 57]⟩) 873 ::
 .str (⟨#[61, 65, 65]⟩) 877 ::
 .str (⟨#[61, 65, 66]⟩) 881 ::
 .str (⟨#[61, 65, 67]⟩) 885 ::
 .str (⟨#[61, 65, 68]⟩) 889 ::
 .str (⟨#[61, 65, 69]⟩) 893 ::
 .str (⟨#[61, 65, 70]⟩) 897 ::
 .str (⟨#[61, 66, 48]⟩) 901 ::
 .str (⟨#[61, 66, 49]⟩) 905 ::
 .str (⟨#[61, 66, 50]⟩) 909 ::
 .str (⟨#[61, 66, 51]⟩) 913 ::
 .str (⟨#[61, 66, 52]⟩) 917 ::
 .str (⟨#[61, 66, 53]⟩) 921 ::
 .str (⟨#[61, 66, 54]⟩) 925 ::
 .str (⟨#[61, 66, 55]⟩) 929 ::
 .str (⟨#[61, 66, 56]⟩) 933 ::
 .str (⟨#[61, 66, 57]⟩) 937 ::
 .str (⟨#[61, 66, 65]⟩) 941 ::
 .str (⟨#[61, 66, 66]⟩) 945 ::
 .str (⟨#[61, 66, 67]⟩) 949 ::
 .str (⟨#[61, 66, 68]⟩) 953 ::
 .str (⟨#[61, 66, 69]⟩) 957 ::
 .str (⟨#[61, 66, 70]⟩) 961 ::
 .str (⟨#[61, 67, 48]⟩) 965 ::
 .str (⟨#[61, 67, 49]⟩) 969 ::
 .str (⟨#[61, 67, 50]⟩) 973 ::
 .str (⟨#[61, 67, 51]⟩) 977 ::
 .str (⟨#[61, 67, 52]⟩) 981 ::
 .str (⟨#[61, 67, 53]⟩) 985 ::
 .str (⟨#[61, 67, 54]⟩) 989 ::
 .str (⟨#[61, 67, 55]⟩) 993 ::
 .str (⟨#[61, 67, 56]⟩) 997 ::
 .str (⟨#[61, 67, 57]⟩) 1001 ::
 .str (⟨#[61, 67, 65]⟩) 1005 ::
 .str (⟨#[61, 67, 66]⟩) 1009 ::
 .str (⟨#[61, 67, 67]⟩) 1013 ::
 .str (⟨#[61, 67, 68]⟩) 1017 ::
 .str (⟨#[61, 67, 69]⟩) 1021 ::
 .str (⟨#[61, 67, 70]⟩) 1025 ::
 .str (⟨#[61, 68, 48]⟩) 1029 ::
 .str (⟨#[61, 68, 49]⟩) 1033 ::
 .str (⟨#[61, 68, 50]⟩) 1037 ::
 .str (⟨#[61, 68, 51]⟩) 1041 ::
 .str (⟨#[61, 68, 52]⟩) 1045 ::
 .str (⟨#[61, 68, 53]⟩) 1049 ::
 .str (⟨#[61, 68, 54]⟩) 1053 ::
 .str (⟨#[61, 68, 55]⟩) 1057 ::
 .str (⟨#[61, 68, 56]⟩) 1061 ::
 .str (⟨#[61, 68, 57]⟩) 1065 ::
 .str (⟨#[61, 68, 65]⟩) 1069 ::
 .str (⟨#[61, 68, 66]⟩) 1073 ::
 .str (⟨#[61, 68, 67]⟩) 1077 ::
 .str (⟨#[61, 68, 68]⟩) 1081 ::
 .str (⟨#[61, 68, 69]⟩) 1085 ::
 .str (⟨#[61, 68, 70]⟩) 1089 ::
 .str (⟨#[61, 69, 48]⟩) 1093 ::
 .str (⟨#[61, 69, 49]⟩) 1097 ::
 .str (⟨#[61, 69, 50]⟩) 1101 ::
 .str (⟨#[61, 69, 51]⟩) 1105 ::
 .str (⟨#[61, 69, 52]⟩) 1109 ::
 .str (⟨#[61, 69, 53]⟩) 1113 ::
 .str (⟨#[61, 69, 54]⟩) 1117 ::
 .str (⟨#[61, 69, 55]⟩) 1121 ::
 .str (⟨#[61, 69, 56]⟩) 1125 ::
 .str (⟨#[61, 69, 57]⟩) 1129 ::
 .str (⟨#[61, 69, 65]⟩) 1133 ::
 .str (⟨#[61, 69, 66]⟩) 1137 ::
 .str (⟨#[61, 69, 67]⟩) 1141 ::
 .str (⟨#[61, 69, 68]⟩) 1145 ::
 .str (⟨#[61, 69, 69]⟩) 1149 ::
 .str (⟨#[61, 69, 70]⟩) 1153 ::
 .str (⟨#[61, 70, 48]⟩) 1157 ::
 .str (⟨#[61, 70, 49]⟩) 1161 ::
 .str (⟨#[61, 70, 50]⟩) 1165 ::
 .str (⟨#[61, 70, 51]⟩) 1169 ::
 .str (⟨#[61, 70, 52]⟩) 1173 ::
 .str (⟨#[61, 70, 53]⟩) 1177 ::
 .str (⟨#[61, 70, 54]⟩) 1181 ::
 .str (⟨#[61, 70, 55]⟩) 1185 ::
 .str (⟨#[61, 70, 56]⟩) 1189 ::
 .str (⟨#[61, 70, 57]⟩) 1193 ::
 .str (⟨#[61, 70, 65]⟩) 1197 ::
 .str (⟨#[61, 70, 66]⟩) 1201 ::
 .str (⟨#[61, 70, 67]⟩) 1205 ::
 .str (⟨#[61, 70, 68]⟩) 1209 ::
 .str (⟨#[61, 70, 69]⟩) 1213 ::
 .str (⟨#[61, 70, 70]⟩) 1217 ::
 [])) 0, #[]⟩
noncomputable def hdS6t (P : Params) : BT := (.node (PySem.W.boot_o_0 P) (.node (PySem.W.boot_o_1 P) (.node (hdO3v6 P) (.node (PySem.W.boot_o_7 P) (.node (hdO15v1 P) (.node (hdO31v0 P) .nil .nil) .nil) (.node (hdO23v0 P) (.node (hdO39v0 P) .nil .nil) .nil)) (.node (hdO11v0 P) (.node (hdO19v0 P) (.node (hdO35v0 P) .nil .nil) .nil) (.node (hdO27v0 P) (.node (hdO43v0 P) .nil .nil) .nil))) (.node (PySem.W.boot_o_5 P) (.node (PySem.W.boot_o_9 P) (.node (hdO17v1 P) (.node (hdO33v0 P) .nil .nil) .nil) (.node (hdO25v0 P) (.node (hdO41v0 P) .nil .nil) .nil)) (.node (hdO13v0 P) (.node (hdO21v0 P) (.node (hdO37v0 P) .nil .nil) .nil) (.node (hdO29v0 P) (.node (hdO45v0 P) .nil .nil) .nil)))) (.node (PySem.W.boot_o_2 P) (.node (PySem.W.boot_o_4 P) (.node (PySem.W.boot_o_8 P) (.node (hdO16v1 P) (.node (hdO32v0 P) .nil .nil) .nil) (.node (hdO24v1 P) (.node (hdO40v0 P) .nil .nil) .nil)) (.node (hdO12v1 P) (.node (hdO20v0 P) (.node (hdO36v0 P) .nil .nil) .nil) (.node (hdO28v1 P) (.node (hdO44v0 P) .nil .nil) .nil))) (.node (PySem.W.boot_o_6 P) (.node (PySem.W.boot_o_10 P) (.node (hdO18v1 P) (.node (hdO34v0 P) .nil .nil) .nil) (.node (hdO26v0 P) (.node (hdO42v0 P) .nil .nil) .nil)) (.node (hdO14v0 P) (.node (hdO22v2 P) (.node (hdO38v0 P) .nil .nil) .nil) (.node (hdO30v0 P) (.node (hdO46v0 P) .nil .nil) .nil)))))
noncomputable def hdS6 (w : World) (os : OsState) : SharedT := ⟨hdS6t w.params, 47, {}, #[], ⟨0, 0, 0, 0⟩, 1748, os⟩
theorem hdP6 (w : World) (os : OsState) : (hdRun w 86 (hdS5 w os) (hdTh (hdSts 14 3) ⟨15, 9, 15, 110⟩)) = some (.next, hdS6 w os, hdC, ⟨21, 0, 21, 23⟩) := by kernel_rfl
theorem hdR6 (w : World) (os : OsState) : hdRunS w 86 (hdS5 w os).abs (piecesOf (hdSts 14 3) hdEnv hdC ⟨15, 9, 15, 110⟩ hdF) = some (.next, (hdS6 w os).abs, hdC, ⟨21, 0, 21, 23⟩) := hdOf (hdP6 w os)
noncomputable def hdO3v7 (P : Params) : Obj := ⟨.type "dict", none, .dict #[⟨PyData.keyHash P (⟨#[95, 95, 110, 97, 109, 101, 95, 95]⟩), .str (⟨#[95, 95, 110, 97, 109, 101, 95, 95]⟩) 165, .str (⟨#[99, 112, 121, 51, 49, 51, 46, 101, 109, 97, 105, 108, 46, 113, 117, 111, 112, 114, 105, 109, 105, 109, 101]⟩) 1234⟩, ⟨PyData.keyHash P (⟨#[95, 95, 100, 111, 99, 95, 95]⟩), .str (⟨#[95, 95, 100, 111, 99, 95, 95]⟩) 166, .none⟩, ⟨PyData.keyHash P (⟨#[95, 95, 112, 97, 99, 107, 97, 103, 101, 95, 95]⟩), .str (⟨#[95, 95, 112, 97, 99, 107, 97, 103, 101, 95, 95]⟩) 167, .none⟩, ⟨PyData.keyHash P (⟨#[95, 95, 108, 111, 97, 100, 101, 114, 95, 95]⟩), .str (⟨#[95, 95, 108, 111, 97, 100, 101, 114, 95, 95]⟩) 168, .builtin "__main__.__loader__#opaque"⟩, ⟨PyData.keyHash P (⟨#[95, 95, 115, 112, 101, 99, 95, 95]⟩), .str (⟨#[95, 95, 115, 112, 101, 99, 95, 95]⟩) 169, .none⟩, ⟨PyData.keyHash P (⟨#[95, 95, 97, 110, 110, 111, 116, 97, 116, 105, 111, 110, 115, 95, 95]⟩), .str (⟨#[95, 95, 97, 110, 110, 111, 116, 97, 116, 105, 111, 110, 115, 95, 95]⟩) 170, .ref 6⟩, ⟨PyData.keyHash P (⟨#[95, 95, 98, 117, 105, 108, 116, 105, 110, 115, 95, 95]⟩), .str (⟨#[95, 95, 98, 117, 105, 108, 116, 105, 110, 115, 95, 95]⟩) 171, .ref 4⟩, ⟨PyData.keyHash P (⟨#[95, 95, 102, 105, 108, 101, 95, 95]⟩), .str (⟨#[95, 95, 102, 105, 108, 101, 95, 95]⟩) 173, .str (⟨#[47, 99, 108, 97, 105, 109, 47, 99, 117, 116, 46, 112, 121]⟩) 172⟩, ⟨PyData.keyHash P (⟨#[95, 95, 99, 97, 99, 104, 101, 100, 95, 95]⟩), .str (⟨#[95, 95, 99, 97, 99, 104, 101, 100, 95, 95]⟩) 174, .none⟩, ⟨PyData.keyHash P (⟨#[67, 82, 76, 70]⟩), .str (⟨#[67, 82, 76, 70]⟩) 188, .str (⟨#[13, 10]⟩) 187⟩, ⟨PyData.keyHash P (⟨#[78, 76]⟩), .str (⟨#[78, 76]⟩) 190, .str (⟨#[10]⟩) 189⟩, ⟨PyData.keyHash P (⟨#[95, 81, 85, 79, 80, 82, 73, 95, 77, 65, 80]⟩), .str (⟨#[95, 81, 85, 79, 80, 82, 73, 95, 77, 65, 80]⟩) 1218, .ref 17⟩, ⟨PyData.keyHash P (⟨#[95, 81, 85, 79, 80, 82, 73, 95, 72, 69, 65, 68, 69, 82, 95, 77, 65, 80]⟩), .str (⟨#[95, 81, 85, 79, 80, 82, 73, 95, 72, 69, 65, 68, 69, 82, 95, 77, 65, 80]⟩) 1219, .ref 22⟩, ⟨PyData.keyHash P (⟨#[95, 81, 85, 79, 80, 82, 73, 95, 66, 79, 68, 89, 95, 77, 65, 80]⟩), .str (⟨#[95, 81, 85, 79, 80, 82, 73, 95, 66, 79, 68, 89, 95, 77, 65, 80]⟩) 1220, .ref 24⟩, ⟨PyData.keyHash P (⟨#[97, 115, 99, 105, 105, 95, 108, 111, 119, 101, 114, 99, 97, 115, 101]⟩), .str (⟨#[97, 115, 99, 105, 105, 95, 108, 111, 119, 101, 114, 99, 97, 115, 101]⟩) 1222, .str (⟨#[97, 98, 99, 100, 101, 102, 103, 104, 105, 106, 107, 108, 109, 110, 111, 112, 113, 114, 115, 116, 117, 118, 119, 120, 121, 122]⟩) 1221⟩, ⟨PyData.keyHash P (⟨#[97, 115, 99, 105, 105, 95, 117, 112, 112, 101, 114, 99, 97, 115, 101]⟩), .str (⟨#[97, 115, 99, 105, 105, 95, 117, 112, 112, 101, 114, 99, 97, 115, 101]⟩) 1224, .str (⟨#[65, 66, 67, 68, 69, 70, 71, 72, 73, 74, 75, 76, 77, 78, 79, 80, 81, 82, 83, 84, 85, 86, 87, 88, 89, 90]⟩) 1223⟩, ⟨PyData.keyHash P (⟨#[97, 115, 99, 105, 105, 95, 108, 101, 116, 116, 101, 114, 115]⟩), .str (⟨#[97, 115, 99, 105, 105, 95, 108, 101, 116, 116, 101, 114, 115]⟩) 1226, .str (⟨#[97, 98, 99, 100, 101, 102, 103, 104, 105, 106, 107, 108, 109, 110, 111, 112, 113, 114, 115, 116, 117, 118, 119, 120, 121, 122, 65, 66, 67, 68, 69, 70, 71, 72, 73, 74, 75, 76, 77, 78, 79, 80, 81, 82, 83, 84, 85, 86, 87, 88, 89, 90]⟩) 1225⟩, ⟨PyData.keyHash P (⟨#[100, 105, 103, 105, 116, 115]⟩), .str (⟨#[100, 105, 103, 105, 116, 115]⟩) 1228, .str (⟨#[48, 49, 50, 51, 52, 53, 54, 55, 56, 57]⟩) 1227⟩, ⟨PyData.keyHash P (⟨#[104, 101, 120, 100, 105, 103, 105, 116, 115]⟩), .str (⟨#[104, 101, 120, 100, 105, 103, 105, 116, 115]⟩) 1233, .str (⟨#[48, 49, 50, 51, 52, 53, 54, 55, 56, 57, 97, 98, 99, 100, 101, 102, 65, 66, 67, 68, 69, 70]⟩) 1232⟩, ⟨PyData.keyHash P (⟨#[99]⟩), .str (⟨#[99]⟩) 1244, .int 10 1752⟩, ⟨PyData.keyHash P (⟨#[117, 110, 113, 117, 111, 116, 101]⟩), .str (⟨#[117, 110, 113, 117, 111, 116, 101]⟩) 1739, .ref 37⟩, ⟨PyData.keyHash P (⟨#[113, 117, 111, 116, 101]⟩), .str (⟨#[113, 117, 111, 116, 101]⟩) 1746, .ref 44⟩, ⟨PyData.keyHash P (⟨#[95, 81, 85, 79, 80, 82, 73, 95, 66, 79, 68, 89, 95, 69, 78, 67, 79, 68, 69, 95, 77, 65, 80]⟩), .str (⟨#[95, 81, 85, 79, 80, 82, 73, 95, 66, 79, 68, 89, 95, 69, 78, 67, 79, 68, 69, 95, 77, 65, 80]⟩) 1747, .ref 46⟩] 23, #[]⟩
noncomputable def hdO46v1 (P : Params) : Obj := ⟨.type "list", none, .seq (List.toArray (.str (⟨#[61, 48, 48]⟩) 197 ::
 .str (⟨#[61, 48, 49]⟩) 201 ::
 .str (⟨#[61, 48, 50]⟩) 205 ::
 .str (⟨#[61, 48, 51]⟩) 209 ::
 .str (⟨#[61, 48, 52]⟩) 213 ::
 .str (⟨#[61, 48, 53]⟩) 217 ::
 .str (⟨#[61, 48, 54]⟩) 221 ::
 .str (⟨#[61, 48, 55]⟩) 225 ::
 .str (⟨#[61, 48, 56]⟩) 229 ::
 .str (⟨#[9]⟩) 1732 ::
 .str (⟨#[10]⟩) 1754 ::
 .str (⟨#[61, 48, 66]⟩) 241 ::
 .str (⟨#[61, 48, 67]⟩) 245 ::
 .str (⟨#[13]⟩) 1751 ::
 .str (⟨#[61, 48, 69]⟩) 253 ::
 .str (⟨#[61, 48, 70]⟩) 257 ::
 .str (⟨#[61, 49, 48]⟩) 261 ::
 .str (⟨#[61, 49, 49]⟩) 265 ::
 .str (⟨#[61, 49, 50]⟩) 269 ::
 .str (⟨#[61, 49, 51]⟩) 273 ::
 .str (⟨#[61, 49, 52]⟩) 277 ::
 .str (⟨#[61, 49, 53]⟩) 281 ::
 .str (⟨#[61, 49, 54]⟩) 285 ::
 .str (⟨#[61, 49, 55]⟩) 289 ::
 .str (⟨#[61, 49, 56]⟩) 293 ::
 .str (⟨#[61, 49, 57]⟩) 297 ::
 .str (⟨#[61, 49, 65]⟩) 301 ::
 .str (⟨#[61, 49, 66]⟩) 305 ::
 .str (⟨#[61, 49, 67]⟩) 309 ::
 .str (⟨#[61, 49, 68]⟩) 313 ::
 .str (⟨#[61, 49, 69]⟩) 317 ::
 .str (⟨#[61, 49, 70]⟩) 321 ::
 .str (⟨#[32]⟩) 1450 ::
 .str (⟨#[33]⟩) 1453 ::
 .str (⟨#[34]⟩) 1456 ::
 .str (⟨#[35]⟩) 1459 ::
 .str (⟨#[36]⟩) 1462 ::
 .str (⟨#[37]⟩) 1465 ::
 .str (⟨#[38]⟩) 1468 ::
 .str (⟨#[39]⟩) 1471 ::
 .str (⟨#[40]⟩) 1474 ::
 .str (⟨#[41]⟩) 1477 ::
 .str (⟨#[42]⟩) 1480 ::
 .str (⟨#[43]⟩) 1483 ::
 .str (⟨#[44]⟩) 1486 ::
 .str (⟨#[45]⟩) 1489 ::
 .str (⟨#[46]⟩) 1492 ::
 .str (⟨#[47]⟩) 1495 ::
 .str (⟨#[48]⟩) 1498 ::
 .str (⟨#[49]⟩) 1501 ::
 .str (⟨#[50]⟩) 1504 ::
 .str (⟨#[51]⟩) 1507 ::
 .str (⟨#[52]⟩) 1510 ::
 .str (⟨#[53]⟩) 1513 ::
 .str (⟨#[54]⟩) 1516 ::
 .str (⟨#[55]⟩) 1519 ::
 .str (⟨#[56]⟩) 1522 ::
 .str (⟨#[57]⟩) 1525 ::
 .str (⟨#[58]⟩) 1528 ::
 .str (⟨#[59]⟩) 1531 ::
 .str (⟨#[60]⟩) 1534 ::
 .str (⟨#[61, 51, 68]⟩) 441 ::
 .str (⟨#[62]⟩) 1537 ::
 .str (⟨#[63]⟩) 1540 ::
 .str (⟨#[64]⟩) 1543 ::
 .str (⟨#[65]⟩) 1546 ::
 .str (⟨#[66]⟩) 1549 ::
 .str (⟨#[67]⟩) 1552 ::
 .str (⟨#[68]⟩) 1555 ::
 .str (⟨#[69]⟩) 1558 ::
 .str (⟨#[70]⟩) 1561 ::
 .str (⟨#[71]⟩) 1564 ::
 .str (⟨#[72]⟩) 1567 ::
 .str (⟨#[73]⟩) 1570 ::
 .str (⟨#[74]⟩) 1573 ::
 .str (⟨#[75]⟩) 1576 ::
 .str (⟨#[76]⟩) 1579 ::
 .str (⟨#[77]⟩) 1582 ::
 .str (⟨#[78]⟩) 1585 ::
 .str (⟨#[79]⟩) 1588 ::
 .str (⟨#[80]⟩) 1591 ::
 .str (⟨#[81]⟩) 1594 ::
 .str (⟨#[82]⟩) 1597 ::
 .str (⟨#[83]⟩) 1600 ::
 .str (⟨#[84]⟩) 1603 ::
 .str (⟨#[85]⟩) 1606 ::
 .str (⟨#[86]⟩) 1609 ::
 .str (⟨#[87]⟩) 1612 ::
 .str (⟨#[88]⟩) 1615 ::
 .str (⟨#[89]⟩) 1618 ::
 .str (⟨#[90]⟩) 1621 ::
 .str (⟨#[91]⟩) 1624 ::
 .str (⟨#[92]⟩) 1627 ::
 .str (⟨#[93]⟩) 1630 ::
 .str (⟨#[94]⟩) 1633 ::
 .str (⟨#[95]⟩) 1636 ::
 .str (⟨#[96]⟩) 1639 ::
 .str (⟨#[97]⟩) 1642 ::
 .str (⟨#[98]⟩) 1645 ::
 .str (⟨#[99]⟩) 1648 ::
 .str (⟨#[100]⟩) 1651 ::
 .str (⟨#[101]⟩) 1654 ::
 .str (⟨#[102]⟩) 1657 ::
 .str (⟨#[103]⟩) 1660 ::
 .str (⟨#[104]⟩) 1663 ::
 .str (⟨#[105]⟩) 1666 ::
 .str (⟨#[106]⟩) 1669 ::
 .str (⟨#[107]⟩) 1672 ::
 .str (⟨#[108]⟩) 1675 ::
 .str (⟨#[109]⟩) 1678 ::
 .str (⟨#[110]⟩) 1681 ::
 .str (⟨#[111]⟩) 1684 ::
 .str (⟨#[112]⟩) 1687 ::
 .str (⟨#[113]⟩) 1690 ::
 .str (⟨#[114]⟩) 1693 ::
 .str (⟨#[115]⟩) 1696 ::
 .str (⟨#[116]⟩) 1699 ::
 .str (⟨#[117]⟩) 1702 ::
 .str (⟨#[118]⟩) 1705 ::
 .str (⟨#[119]⟩) 1708 ::
 .str (⟨#[120]⟩) 1711 ::
 .str (⟨#[121]⟩) 1714 ::
 .str (⟨#[122]⟩) 1717 ::
 .str (⟨#[123]⟩) 1720 ::
 .str (⟨#[124]⟩) 1723 ::
 .str (⟨#[125]⟩) 1726 ::
 .str (⟨#[126]⟩) 1729 ::
 .str (⟨#[61, 55, 70]⟩) 705 ::
 .str (⟨#[61, 56, 48]⟩) 709 ::
 .str (⟨#[61, 56, 49]⟩) 713 ::
 .str (⟨#[61, 56, 50]⟩) 717 ::
 .str (⟨#[61, 56, 51]⟩) 721 ::
 .str (⟨#[61, 56, 52]⟩) 725 ::
 .str (⟨#[61, 56, 53]⟩) 729 ::
 .str (⟨#[61, 56, 54]⟩) 733 ::
 .str (⟨#[61, 56, 55]⟩) 737 ::
 .str (⟨#[61, 56, 56]⟩) 741 ::
 .str (⟨#[61, 56, 57]⟩) 745 ::
 .str (⟨#[61, 56, 65]⟩) 749 ::
 .str (⟨#[61, 56, 66]⟩) 753 ::
 .str (⟨#[61, 56, 67]⟩) 757 ::
 .str (⟨#[61, 56, 68]⟩) 761 ::
 .str (⟨#[61, 56, 69]⟩) 765 ::
 .str (⟨#[61, 56, 70]⟩) 769 ::
 .str (⟨#[61, 57, 48]⟩) 773 ::
 .str (⟨#[61, 57, 49]⟩) 777 ::
 .str (⟨#[61, 57, 50]⟩) 781 ::
 .str (⟨#[61, 57, 51]⟩) 785 ::
 .str (⟨#[61, 57, 52]⟩) 789 ::
 .str (⟨#[61, 57, 53]⟩) 793 ::
 .str (⟨#[61, 57, 54]⟩) 797 ::
 .str (⟨#[61, 57, 55]⟩) 801 ::
 .str (⟨#[61, 57, 56]⟩) 805 ::
 .str (⟨#[61, 57, 57]⟩) 809 ::
 .str (⟨#[61, 57, 65]⟩) 813 ::
 .str (⟨#[61, 57, 66]⟩) 817 ::
 .str (⟨#[61, 57, 67]⟩) 821 ::
 .str (⟨#[61, 57, 68]⟩) 825 ::
 .str (⟨#[61, 57, 69]⟩) 829 ::
 .str (⟨#[61, 57, 70]⟩) 833 ::
 .str (⟨#[61, 65, 48]⟩) 837 ::
 .str (⟨#[61, 65, 49]⟩) 841 ::
 .str (⟨#[61, 65, 50]⟩) 845 ::
 .str (⟨#[61, 65, 51]⟩) 849 ::
 .str (⟨#[61, 65, 52]⟩) 853 ::
 .str (⟨#[61, 65, 53]⟩) 857 ::
 .str (⟨#[61, 65, 54]⟩) 861 ::
 .str (⟨#[61, 65, 55]⟩) 865 ::
 .str (⟨#[61, 65, 56]⟩) 869 ::
 .str (⟨#[61, 65, 57]⟩) 873 ::
 .str (⟨#[61, 65, 65]⟩) 877 ::
 .str (⟨#[61, 65, 66]⟩) 881 ::
 .str (⟨#[61, 65, 67]⟩) 885 ::
 .str (⟨#[61, 65, 68]⟩) 889 ::
 .str (⟨#[61, 65, 69]⟩) 893 ::
 .str (⟨#[61, 65, 70]⟩) 897 ::
 .str (⟨#[61, 66, 48]⟩) 901 ::
 .str (⟨#[61, 66, 49]⟩) 905 ::
 .str (⟨#[61, 66, 50]⟩) 909 ::
 .str (⟨#[61, 66, 51]⟩) 913 ::
 .str (⟨#[61, 66, 52]⟩) 917 ::
 .str (⟨#[61, 66, 53]⟩) 921 ::
 .str (⟨#[61, 66, 54]⟩) 925 ::
 .str (⟨#[61, 66, 55]⟩) 929 ::
 .str (⟨#[61, 66, 56]⟩) 933 ::
 .str (⟨#[61, 66, 57]⟩) 937 ::
 .str (⟨#[61, 66, 65]⟩) 941 ::
 .str (⟨#[61, 66, 66]⟩) 945 ::
 .str (⟨#[61, 66, 67]⟩) 949 ::
 .str (⟨#[61, 66, 68]⟩) 953 ::
 .str (⟨#[61, 66, 69]⟩) 957 ::
 .str (⟨#[61, 66, 70]⟩) 961 ::
 .str (⟨#[61, 67, 48]⟩) 965 ::
 .str (⟨#[61, 67, 49]⟩) 969 ::
 .str (⟨#[61, 67, 50]⟩) 973 ::
 .str (⟨#[61, 67, 51]⟩) 977 ::
 .str (⟨#[61, 67, 52]⟩) 981 ::
 .str (⟨#[61, 67, 53]⟩) 985 ::
 .str (⟨#[61, 67, 54]⟩) 989 ::
 .str (⟨#[61, 67, 55]⟩) 993 ::
 .str (⟨#[61, 67, 56]⟩) 997 ::
 .str (⟨#[61, 67, 57]⟩) 1001 ::
 .str (⟨#[61, 67, 65]⟩) 1005 ::
 .str (⟨#[61, 67, 66]⟩) 1009 ::
 .str (⟨#[61, 67, 67]⟩) 1013 ::
 .str (⟨#[61, 67, 68]⟩) 1017 ::
 .str (⟨#[61, 67, 69]⟩) 1021 ::
 .str (⟨#[61, 67, 70]⟩) 1025 ::
 .str (⟨#[61, 68, 48]⟩) 1029 ::
 .str (⟨#[61, 68, 49]⟩) 1033 ::
 .str (⟨#[61, 68, 50]⟩) 1037 ::
 .str (⟨#[61, 68, 51]⟩) 1041 ::
 .str (⟨#[61, 68, 52]⟩) 1045 ::
 .str (⟨#[61, 68, 53]⟩) 1049 ::
 .str (⟨#[61, 68, 54]⟩) 1053 ::
 .str (⟨#[61, 68, 55]⟩) 1057 ::
 .str (⟨#[61, 68, 56]⟩) 1061 ::
 .str (⟨#[61, 68, 57]⟩) 1065 ::
 .str (⟨#[61, 68, 65]⟩) 1069 ::
 .str (⟨#[61, 68, 66]⟩) 1073 ::
 .str (⟨#[61, 68, 67]⟩) 1077 ::
 .str (⟨#[61, 68, 68]⟩) 1081 ::
 .str (⟨#[61, 68, 69]⟩) 1085 ::
 .str (⟨#[61, 68, 70]⟩) 1089 ::
 .str (⟨#[61, 69, 48]⟩) 1093 ::
 .str (⟨#[61, 69, 49]⟩) 1097 ::
 .str (⟨#[61, 69, 50]⟩) 1101 ::
 .str (⟨#[61, 69, 51]⟩) 1105 ::
 .str (⟨#[61, 69, 52]⟩) 1109 ::
 .str (⟨#[61, 69, 53]⟩) 1113 ::
 .str (⟨#[61, 69, 54]⟩) 1117 ::
 .str (⟨#[61, 69, 55]⟩) 1121 ::
 .str (⟨#[61, 69, 56]⟩) 1125 ::
 .str (⟨#[61, 69, 57]⟩) 1129 ::
 .str (⟨#[61, 69, 65]⟩) 1133 ::
 .str (⟨#[61, 69, 66]⟩) 1137 ::
 .str (⟨#[61, 69, 67]⟩) 1141 ::
 .str (⟨#[61, 69, 68]⟩) 1145 ::
 .str (⟨#[61, 69, 69]⟩) 1149 ::
 .str (⟨#[61, 69, 70]⟩) 1153 ::
 .str (⟨#[61, 70, 48]⟩) 1157 ::
 .str (⟨#[61, 70, 49]⟩) 1161 ::
 .str (⟨#[61, 70, 50]⟩) 1165 ::
 .str (⟨#[61, 70, 51]⟩) 1169 ::
 .str (⟨#[61, 70, 52]⟩) 1173 ::
 .str (⟨#[61, 70, 53]⟩) 1177 ::
 .str (⟨#[61, 70, 54]⟩) 1181 ::
 .str (⟨#[61, 70, 55]⟩) 1185 ::
 .str (⟨#[61, 70, 56]⟩) 1189 ::
 .str (⟨#[61, 70, 57]⟩) 1193 ::
 .str (⟨#[61, 70, 65]⟩) 1197 ::
 .str (⟨#[61, 70, 66]⟩) 1201 ::
 .str (⟨#[61, 70, 67]⟩) 1205 ::
 .str (⟨#[61, 70, 68]⟩) 1209 ::
 .str (⟨#[61, 70, 69]⟩) 1213 ::
 .str (⟨#[61, 70, 70]⟩) 1217 ::
 [])) 0, #[]⟩
noncomputable def hdO47v0 (P : Params) : Obj := ⟨.type "bytes_iterator", none, .fields #[.none, .int 2 0], #[]⟩
noncomputable def hdO48v0 (P : Params) : Obj := ⟨.type "tuple", none, .seq #[] 0, #[]⟩
noncomputable def hdO49v0 (P : Params) : Obj := ⟨.type "StopIteration", none, .fields #[.ref 48, .none, .none, .none, .bool false, .none], #[]⟩
noncomputable def hdS7t (P : Params) : BT := (.node (PySem.W.boot_o_0 P) (.node (PySem.W.boot_o_1 P) (.node (hdO3v7 P) (.node (PySem.W.boot_o_7 P) (.node (hdO15v1 P) (.node (hdO31v0 P) .nil .nil) (.node (hdO47v0 P) .nil .nil)) (.node (hdO23v0 P) (.node (hdO39v0 P) .nil .nil) .nil)) (.node (hdO11v0 P) (.node (hdO19v0 P) (.node (hdO35v0 P) .nil .nil) .nil) (.node (hdO27v0 P) (.node (hdO43v0 P) .nil .nil) .nil))) (.node (PySem.W.boot_o_5 P) (.node (PySem.W.boot_o_9 P) (.node (hdO17v1 P) (.node (hdO33v0 P) .nil .nil) (.node (hdO49v0 P) .nil .nil)) (.node (hdO25v0 P) (.node (hdO41v0 P) .nil .nil) .nil)) (.node (hdO13v0 P) (.node (hdO21v0 P) (.node (hdO37v0 P) .nil .nil) .nil) (.node (hdO29v0 P) (.node (hdO45v0 P) .nil .nil) .nil)))) (.node (PySem.W.boot_o_2 P) (.node (PySem.W.boot_o_4 P) (.node (PySem.W.boot_o_8 P) (.node (hdO16v1 P) (.node (hdO32v0 P) .nil .nil) (.node (hdO48v0 P) .nil .nil)) (.node (hdO24v1 P) (.node (hdO40v0 P) .nil .nil) .nil)) (.node (hdO12v1 P) (.node (hdO20v0 P) (.node (hdO36v0 P) .nil .nil) .nil) (.node (hdO28v1 P) (.node (hdO44v0 P) .nil .nil) .nil))) (.node (PySem.W.boot_o_6 P) (.node (PySem.W.boot_o_10 P) (.node (hdO18v1 P) (.node (hdO34v0 P) .nil .nil) .nil) (.node (hdO26v0 P) (.node (hdO42v0 P) .nil .nil) .nil)) (.node (hdO14v0 P) (.node (hdO22v2 P) (.node (hdO38v0 P) .nil .nil) .nil) (.node (hdO30v0 P) (.node (hdO46v1 P) .nil .nil) .nil)))))
noncomputable def hdS7 (w : World) (os : OsState) : SharedT := ⟨hdS7t w.params, 50, {}, #[], ⟨0, 0, 0, 0⟩, 1755, os⟩
theorem hdP7f (w : World) (os : OsState) : (hdRun (w.withFollow "special-get-raises" false) 118 (hdS6 (w.withFollow "special-get-raises" false) os) (hdTh (hdSts 17 1) ⟨21, 0, 21, 23⟩)) = some (.next, hdS7 (w.withFollow "special-get-raises" false) os, hdC, ⟨22, 9, 22, 16⟩) := by kernel_rfl
theorem hdP7t (w : World) (os : OsState) : (hdRun (w.withFollow "special-get-raises" true) 118 (hdS6 (w.withFollow "special-get-raises" true) os) (hdTh (hdSts 17 1) ⟨21, 0, 21, 23⟩)) = some (.next, hdS7 (w.withFollow "special-get-raises" true) os, hdC, ⟨22, 9, 22, 16⟩) := by kernel_rfl
theorem hdP7 (w : World) (os : OsState) : (hdRun w 118 (hdS6 w os) (hdTh (hdSts 17 1) ⟨21, 0, 21, 23⟩)) = some (.next, hdS7 w os, hdC, ⟨22, 9, 22, 16⟩) := byRow2 "special-get-raises" (P := fun w => (hdRun w 118 (hdS6 w os) (hdTh (hdSts 17 1) ⟨21, 0, 21, 23⟩)) = some (.next, hdS7 w os, hdC, ⟨22, 9, 22, 16⟩)) (fun w => hdP7f w os) (fun w => hdP7t w os) w
theorem hdR7 (w : World) (os : OsState) : hdRunS w 118 (hdS6 w os).abs (piecesOf (hdSts 17 1) hdEnv hdC ⟨21, 0, 21, 23⟩ hdF) = some (.next, (hdS7 w os).abs, hdC, ⟨22, 9, 22, 16⟩) := hdOf (hdP7 w os)
noncomputable def hdO3v8 (P : Params) : Obj := ⟨.type "dict", none, .dict #[⟨PyData.keyHash P (⟨#[95, 95, 110, 97, 109, 101, 95, 95]⟩), .str (⟨#[95, 95, 110, 97, 109, 101, 95, 95]⟩) 165, .str (⟨#[108, 97, 119, 95, 110, 121, 48, 49, 54, 49, 95, 48, 49]⟩) 1799⟩, ⟨PyData.keyHash P (⟨#[95, 95, 100, 111, 99, 95, 95]⟩), .str (⟨#[95, 95, 100, 111, 99, 95, 95]⟩) 166, .none⟩, ⟨PyData.keyHash P (⟨#[95, 95, 112, 97, 99, 107, 97, 103, 101, 95, 95]⟩), .str (⟨#[95, 95, 112, 97, 99, 107, 97, 103, 101, 95, 95]⟩) 167, .none⟩, ⟨PyData.keyHash P (⟨#[95, 95, 108, 111, 97, 100, 101, 114, 95, 95]⟩), .str (⟨#[95, 95, 108, 111, 97, 100, 101, 114, 95, 95]⟩) 168, .builtin "__main__.__loader__#opaque"⟩, ⟨PyData.keyHash P (⟨#[95, 95, 115, 112, 101, 99, 95, 95]⟩), .str (⟨#[95, 95, 115, 112, 101, 99, 95, 95]⟩) 169, .none⟩, ⟨PyData.keyHash P (⟨#[95, 95, 97, 110, 110, 111, 116, 97, 116, 105, 111, 110, 115, 95, 95]⟩), .str (⟨#[95, 95, 97, 110, 110, 111, 116, 97, 116, 105, 111, 110, 115, 95, 95]⟩) 170, .ref 6⟩, ⟨PyData.keyHash P (⟨#[95, 95, 98, 117, 105, 108, 116, 105, 110, 115, 95, 95]⟩), .str (⟨#[95, 95, 98, 117, 105, 108, 116, 105, 110, 115, 95, 95]⟩) 171, .ref 4⟩, ⟨PyData.keyHash P (⟨#[95, 95, 102, 105, 108, 101, 95, 95]⟩), .str (⟨#[95, 95, 102, 105, 108, 101, 95, 95]⟩) 173, .str (⟨#[47, 99, 108, 97, 105, 109, 47, 99, 117, 116, 46, 112, 121]⟩) 172⟩, ⟨PyData.keyHash P (⟨#[95, 95, 99, 97, 99, 104, 101, 100, 95, 95]⟩), .str (⟨#[95, 95, 99, 97, 99, 104, 101, 100, 95, 95]⟩) 174, .none⟩, ⟨PyData.keyHash P (⟨#[67, 82, 76, 70]⟩), .str (⟨#[67, 82, 76, 70]⟩) 188, .str (⟨#[13, 10]⟩) 187⟩, ⟨PyData.keyHash P (⟨#[78, 76]⟩), .str (⟨#[78, 76]⟩) 190, .str (⟨#[10]⟩) 189⟩, ⟨PyData.keyHash P (⟨#[95, 81, 85, 79, 80, 82, 73, 95, 77, 65, 80]⟩), .str (⟨#[95, 81, 85, 79, 80, 82, 73, 95, 77, 65, 80]⟩) 1218, .ref 17⟩, ⟨PyData.keyHash P (⟨#[95, 81, 85, 79, 80, 82, 73, 95, 72, 69, 65, 68, 69, 82, 95, 77, 65, 80]⟩), .str (⟨#[95, 81, 85, 79, 80, 82, 73, 95, 72, 69, 65, 68, 69, 82, 95, 77, 65, 80]⟩) 1219, .ref 22⟩, ⟨PyData.keyHash P (⟨#[95, 81, 85, 79, 80, 82, 73, 95, 66, 79, 68, 89, 95, 77, 65, 80]⟩), .str (⟨#[95, 81, 85, 79, 80, 82, 73, 95, 66, 79, 68, 89, 95, 77, 65, 80]⟩) 1220, .ref 24⟩, ⟨PyData.keyHash P (⟨#[97, 115, 99, 105, 105, 95, 108, 111, 119, 101, 114, 99, 97, 115, 101]⟩), .str (⟨#[97, 115, 99, 105, 105, 95, 108, 111, 119, 101, 114, 99, 97, 115, 101]⟩) 1222, .str (⟨#[97, 98, 99, 100, 101, 102, 103, 104, 105, 106, 107, 108, 109, 110, 111, 112, 113, 114, 115, 116, 117, 118, 119, 120, 121, 122]⟩) 1221⟩, ⟨PyData.keyHash P (⟨#[97, 115, 99, 105, 105, 95, 117, 112, 112, 101, 114, 99, 97, 115, 101]⟩), .str (⟨#[97, 115, 99, 105, 105, 95, 117, 112, 112, 101, 114, 99, 97, 115, 101]⟩) 1224, .str (⟨#[65, 66, 67, 68, 69, 70, 71, 72, 73, 74, 75, 76, 77, 78, 79, 80, 81, 82, 83, 84, 85, 86, 87, 88, 89, 90]⟩) 1223⟩, ⟨PyData.keyHash P (⟨#[97, 115, 99, 105, 105, 95, 108, 101, 116, 116, 101, 114, 115]⟩), .str (⟨#[97, 115, 99, 105, 105, 95, 108, 101, 116, 116, 101, 114, 115]⟩) 1226, .str (⟨#[97, 98, 99, 100, 101, 102, 103, 104, 105, 106, 107, 108, 109, 110, 111, 112, 113, 114, 115, 116, 117, 118, 119, 120, 121, 122, 65, 66, 67, 68, 69, 70, 71, 72, 73, 74, 75, 76, 77, 78, 79, 80, 81, 82, 83, 84, 85, 86, 87, 88, 89, 90]⟩) 1225⟩, ⟨PyData.keyHash P (⟨#[100, 105, 103, 105, 116, 115]⟩), .str (⟨#[100, 105, 103, 105, 116, 115]⟩) 1228, .str (⟨#[48, 49, 50, 51, 52, 53, 54, 55, 56, 57]⟩) 1227⟩, ⟨PyData.keyHash P (⟨#[104, 101, 120, 100, 105, 103, 105, 116, 115]⟩), .str (⟨#[104, 101, 120, 100, 105, 103, 105, 116, 115]⟩) 1233, .str (⟨#[48, 49, 50, 51, 52, 53, 54, 55, 56, 57, 97, 98, 99, 100, 101, 102, 65, 66, 67, 68, 69, 70]⟩) 1232⟩, ⟨PyData.keyHash P (⟨#[117, 110, 113, 117, 111, 116, 101]⟩), .str (⟨#[117, 110, 113, 117, 111, 116, 101]⟩) 1739, .ref 37⟩, ⟨PyData.keyHash P (⟨#[113, 117, 111, 116, 101]⟩), .str (⟨#[113, 117, 111, 116, 101]⟩) 1746, .ref 44⟩, ⟨PyData.keyHash P (⟨#[95, 81, 85, 79, 80, 82, 73, 95, 66, 79, 68, 89, 95, 69, 78, 67, 79, 68, 69, 95, 77, 65, 80]⟩), .str (⟨#[95, 81, 85, 79, 80, 82, 73, 95, 66, 79, 68, 89, 95, 69, 78, 67, 79, 68, 69, 95, 77, 65, 80]⟩) 1747, .ref 46⟩, ⟨PyData.keyHash P (⟨#[98, 111, 100, 121, 95, 101, 110, 99, 111, 100, 101]⟩), .str (⟨#[98, 111, 100, 121, 95, 101, 110, 99, 111, 100, 101]⟩) 1774, .ref 57⟩, ⟨PyData.keyHash P (⟨#[100, 101, 99, 111, 100, 101]⟩), .str (⟨#[100, 101, 99, 111, 100, 101]⟩) 1787, .ref 65⟩, ⟨PyData.keyHash P (⟨#[95, 112, 97, 114, 115, 101, 95, 118, 97, 114, 105, 110, 116]⟩), .str (⟨#[95, 112, 97, 114, 115, 101, 95, 118, 97, 114, 105, 110, 116]⟩) 1798, .ref 72⟩, ⟨PyData.keyHash P (⟨#[95, 108, 97, 119, 95, 105, 116, 101, 109]⟩), .str (⟨#[95, 108, 97, 119, 95, 105, 116, 101, 109]⟩) 1810, .ref 79⟩, ⟨PyData.keyHash P (⟨#[95, 108, 97, 119, 95, 116, 101, 120, 116]⟩), .str (⟨#[95, 108, 97, 119, 95, 116, 101, 120, 116]⟩) 1822, .ref 86⟩, ⟨PyData.keyHash P (⟨#[95, 108, 97, 119, 95, 114, 101, 97, 100]⟩), .str (⟨#[95, 108, 97, 119, 95, 114, 101, 97, 100]⟩) 1828, .ref 91⟩, ⟨PyData.keyHash P (⟨#[95, 108, 97, 119, 95, 100, 117, 101]⟩), .str (⟨#[95, 108, 97, 119, 95, 100, 117, 101]⟩) 1844, .ref 98⟩, ⟨PyData.keyHash P (⟨#[108, 97, 119]⟩), .str (⟨#[108, 97, 119]⟩) 1850, .ref 103⟩] 32, #[]⟩
noncomputable def hdO12v2 (P : Params) : Obj := ⟨.none, none, .fields #[.int 17 0, .int 0 0, .ref 36, .int 19 0, .int 0 0, .ref 43, .int 25 0, .int 0 0, .ref 56, .int 63 0, .int 0 0, .ref 64, .int 94 0, .int 0 0, .ref 71, .int 103 0, .int 0 0, .ref 78, .int 111 0, .int 0 0, .ref 85, .int 118 0, .int 0 0, .ref 90, .int 126 0, .int 0 0, .ref 97, .int 144 0, .int 0 0, .ref 102], #[]⟩
noncomputable def hdO50v0 (P : Params) : Obj := ⟨.type "tuple", none, .seq #[.int 76 1755, .str (⟨#[10]⟩) 189] 0, #[]⟩
noncomputable def hdO51v0 (P : Params) : Obj := ⟨.type "tuple", none, .seq #[] 0, #[]⟩
noncomputable def hdO52v0 (P : Params) : Obj := ⟨.none, none, .fields #[], #[]⟩
noncomputable def hdO53v0 (P : Params) : Obj := ⟨.type "tuple", none, .seq #[.str (⟨#[98, 111, 100, 121]⟩) 1759, .str (⟨#[109, 97, 120, 108, 105, 110, 101, 108, 101, 110]⟩) 1760, .str (⟨#[101, 111, 108]⟩) 1761, .str (⟨#[115, 111, 102, 116, 95, 98, 114, 101, 97, 107]⟩) 1762, .str (⟨#[109, 97, 120, 108, 105, 110, 101, 108, 101, 110, 49]⟩) 1763, .str (⟨#[101, 110, 99, 111, 100, 101, 100, 95, 98, 111, 100, 121]⟩) 1764, .str (⟨#[97, 112, 112, 101, 110, 100]⟩) 1765, .str (⟨#[108, 105, 110, 101]⟩) 1766, .str (⟨#[115, 116, 97, 114, 116]⟩) 1767, .str (⟨#[108, 97, 115, 116, 115, 116, 97, 114, 116]⟩) 1768, .str (⟨#[115, 116, 111, 112]⟩) 1769, .str (⟨#[114, 111, 111, 109]⟩) 1770, .str (⟨#[113]⟩) 1771] 0, #[]⟩
noncomputable def hdO54v0 (P : Params) : Obj := ⟨.type "tuple", none, .seq #[] 0, #[]⟩
noncomputable def hdO55v0 (P : Params) : Obj := hdFn 19 (.none) 0 (.none) (.none) (.none) (.none) (.none)
noncomputable def hdO56v0 (P : Params) : Obj := ⟨.type "code", none, .fields #[.str (⟨#[98, 111, 100, 121, 95, 101, 110, 99, 111, 100, 101]⟩) 1756, .str (⟨#[98, 111, 100, 121, 95, 101, 110, 99, 111, 100, 101]⟩) 1757, .str (⟨#[47, 99, 108, 97, 105, 109, 47, 99, 117, 116, 46, 112, 121]⟩) 1758, .int 25 0, .int 3 0, .int 0 0, .int 0 0, .int 3 0, .ref 51, .bool true, .int 181 0, .ref 52, .none, .ref 53, .ref 54, .ref 55, .int 1772 0, .int 25 0, .str (⟨#[47, 99, 108, 97, 105, 109, 47, 99, 117, 116, 46, 112, 121]⟩) 1773], #[]⟩
noncomputable def hdO57v0 (P : Params) : Obj := hdFn 19 (.type "function") 3 (.ref 50) (.none) (.none) (.str (⟨#[99, 112, 121, 51, 49, 51, 46, 101, 109, 97, 105, 108, 46, 113, 117, 111, 112, 114, 105, 109, 105, 109, 101]⟩) 1234) (.ref 56)
noncomputable def hdO58v0 (P : Params) : Obj := ⟨.type "tuple", none, .seq #[.str (⟨#[10]⟩) 189] 0, #[]⟩
noncomputable def hdO59v0 (P : Params) : Obj := ⟨.type "tuple", none, .seq #[] 0, #[]⟩
noncomputable def hdO60v0 (P : Params) : Obj := ⟨.none, none, .fields #[], #[]⟩
noncomputable def hdO61v0 (P : Params) : Obj := ⟨.type "tuple", none, .seq #[.str (⟨#[101, 110, 99, 111, 100, 101, 100]⟩) 1778, .str (⟨#[101, 111, 108]⟩) 1779, .str (⟨#[100, 101, 99, 111, 100, 101, 100]⟩) 1780, .str (⟨#[108, 105, 110, 101]⟩) 1781, .str (⟨#[105]⟩) 1782, .str (⟨#[110]⟩) 1783, .str (⟨#[99]⟩) 1784] 0, #[]⟩
noncomputable def hdO62v0 (P : Params) : Obj := ⟨.type "tuple", none, .seq #[] 0, #[]⟩
noncomputable def hdO63v0 (P : Params) : Obj := hdFn 20 (.none) 0 (.none) (.none) (.none) (.none) (.none)
noncomputable def hdO64v0 (P : Params) : Obj := ⟨.type "code", none, .fields #[.str (⟨#[100, 101, 99, 111, 100, 101]⟩) 1775, .str (⟨#[100, 101, 99, 111, 100, 101]⟩) 1776, .str (⟨#[47, 99, 108, 97, 105, 109, 47, 99, 117, 116, 46, 112, 121]⟩) 1777, .int 63 0, .int 2 0, .int 0 0, .int 0 0, .int 3 0, .ref 59, .bool true, .int 181 0, .ref 60, .none, .ref 61, .ref 62, .ref 63, .int 1785 0, .int 63 0, .str (⟨#[47, 99, 108, 97, 105, 109, 47, 99, 117, 116, 46, 112, 121]⟩) 1786], #[]⟩
noncomputable def hdO65v0 (P : Params) : Obj := hdFn 20 (.type "function") 3 (.ref 58) (.none) (.none) (.str (⟨#[99, 112, 121, 51, 49, 51, 46, 101, 109, 97, 105, 108, 46, 113, 117, 111, 112, 114, 105, 109, 105, 109, 101]⟩) 1234) (.ref 64)
noncomputable def hdO66v0 (P : Params) : Obj := ⟨.type "tuple", none, .seq #[] 0, #[]⟩
noncomputable def hdO67v0 (P : Params) : Obj := ⟨.none, none, .fields #[], #[]⟩
noncomputable def hdO68v0 (P : Params) : Obj := ⟨.type "tuple", none, .seq #[.str (⟨#[105, 116, 101, 114, 97, 116, 111, 114]⟩) 1793, .str (⟨#[98]⟩) 1794, .str (⟨#[118, 97, 108]⟩) 1795] 0, #[]⟩
noncomputable def hdO69v0 (P : Params) : Obj := ⟨.type "tuple", none, .seq #[] 0, #[]⟩
noncomputable def hdO70v0 (P : Params) : Obj := hdFn 22 (.none) 0 (.none) (.none) (.none) (.none) (.none)
noncomputable def hdO71v0 (P : Params) : Obj := ⟨.type "code", none, .fields #[.str (⟨#[95, 112, 97, 114, 115, 101, 95, 118, 97, 114, 105, 110, 116]⟩) 1790, .str (⟨#[95, 112, 97, 114, 115, 101, 95, 118, 97, 114, 105, 110, 116]⟩) 1791, .str (⟨#[47, 99, 108, 97, 105, 109, 47, 99, 117, 116, 46, 112, 121]⟩) 1792, .int 94 0, .int 1 0, .int 0 0, .int 0 0, .int 3 0, .ref 66, .bool true, .int 181 0, .ref 67, .none, .ref 68, .ref 69, .ref 70, .int 1796 0, .int 94 0, .str (⟨#[47, 99, 108, 97, 105, 109, 47, 99, 117, 116, 46, 112, 121]⟩) 1797], #[]⟩
noncomputable def hdO72v0 (P : Params) : Obj := hdFn 22 (.type "function") 3 (.none) (.none) (.none) (.str (⟨#[99, 112, 121, 51, 49, 51, 46, 100, 105, 115]⟩) 1788) (.ref 71)
noncomputable def hdO73v0 (P : Params) : Obj := ⟨.type "tuple", none, .seq #[] 0, #[]⟩
noncomputable def hdO74v0 (P : Params) : Obj := ⟨.none, none, .fields #[], #[]⟩
noncomputable def hdO75v0 (P : Params) : Obj := ⟨.type "tuple", none, .seq #[.str (⟨#[120]⟩) 1804, .str (⟨#[114, 101, 115, 116]⟩) 1805, .str (⟨#[119, 105, 100, 116, 104]⟩) 1806, .str (⟨#[108, 97, 115, 116]⟩) 1807] 0, #[]⟩
noncomputable def hdO76v0 (P : Params) : Obj := ⟨.type "tuple", none, .seq #[] 0, #[]⟩
noncomputable def hdO77v0 (P : Params) : Obj := hdFn 24 (.none) 0 (.none) (.none) (.none) (.none) (.none)
noncomputable def hdO78v0 (P : Params) : Obj := ⟨.type "code", none, .fields #[.str (⟨#[95, 108, 97, 119, 95, 105, 116, 101, 109]⟩) 1801, .str (⟨#[95, 108, 97, 119, 95, 105, 116, 101, 109]⟩) 1802, .str (⟨#[47, 99, 108, 97, 105, 109, 47, 99, 117, 116, 46, 112, 121]⟩) 1803, .int 103 0, .int 1 0, .int 0 0, .int 0 0, .int 3 0, .ref 73, .bool true, .int 181 0, .ref 74, .none, .ref 75, .ref 76, .ref 77, .int 1808 0, .int 103 0, .str (⟨#[47, 99, 108, 97, 105, 109, 47, 99, 117, 116, 46, 112, 121]⟩) 1809], #[]⟩
noncomputable def hdO79v0 (P : Params) : Obj := hdFn 24 (.type "function") 3 (.none) (.none) (.none) (.str (⟨#[108, 97, 119, 95, 110, 121, 48, 49, 54, 49, 95, 48, 49]⟩) 1799) (.ref 78)
noncomputable def hdO80v0 (P : Params) : Obj := ⟨.type "tuple", none, .seq #[] 0, #[]⟩
noncomputable def hdO81v0 (P : Params) : Obj := ⟨.none, none, .fields #[], #[]⟩
noncomputable def hdO82v0 (P : Params) : Obj := ⟨.type "tuple", none, .seq #[.str (⟨#[105, 116, 101, 109, 115]⟩) 1814, .str (⟨#[115, 105, 103, 110, 115]⟩) 1815, .str (⟨#[119, 105, 100, 116, 104]⟩) 1816, .str (⟨#[110, 117, 109, 98, 101, 114]⟩) 1817, .str (⟨#[115, 104, 105, 101, 108, 100, 101, 100]⟩) 1818, .str (⟨#[107]⟩) 1819] 0, #[]⟩
noncomputable def hdO83v0 (P : Params) : Obj := ⟨.type "tuple", none, .seq #[] 0, #[]⟩
noncomputable def hdO84v0 (P : Params) : Obj := hdFn 25 (.none) 0 (.none) (.none) (.none) (.none) (.none)
noncomputable def hdO85v0 (P : Params) : Obj := ⟨.type "code", none, .fields #[.str (⟨#[95, 108, 97, 119, 95, 116, 101, 120, 116]⟩) 1811, .str (⟨#[95, 108, 97, 119, 95, 116, 101, 120, 116]⟩) 1812, .str (⟨#[47, 99, 108, 97, 105, 109, 47, 99, 117, 116, 46, 112, 121]⟩) 1813, .int 111 0, .int 1 0, .int 0 0, .int 0 0, .int 3 0, .ref 80, .bool true, .int 181 0, .ref 81, .none, .ref 82, .ref 83, .ref 84, .int 1820 0, .int 111 0, .str (⟨#[47, 99, 108, 97, 105, 109, 47, 99, 117, 116, 46, 112, 121]⟩) 1821], #[]⟩
noncomputable def hdO86v0 (P : Params) : Obj := hdFn 25 (.type "function") 3 (.none) (.none) (.none) (.str (⟨#[108, 97, 119, 95, 110, 121, 48, 49, 54, 49, 95, 48, 49]⟩) 1799) (.ref 85)
noncomputable def hdO87v0 (P : Params) : Obj := ⟨.type "tuple", none, .seq #[] 0, #[]⟩
noncomputable def hdO88v0 (P : Params) : Obj := ⟨.none, none, .fields #[], #[]⟩
noncomputable def hdO89v0 (P : Params) : Obj := hdFn 26 (.none) 0 (.none) (.none) (.none) (.none) (.none)
noncomputable def hdO90v0 (P : Params) : Obj := ⟨.type "code", none, .fields #[.str (⟨#[95, 108, 97, 119, 95, 114, 101, 97, 100]⟩) 1823, .str (⟨#[95, 108, 97, 119, 95, 114, 101, 97, 100]⟩) 1824, .str (⟨#[47, 99, 108, 97, 105, 109, 47, 99, 117, 116, 46, 112, 121]⟩) 1825, .int 118 0, .int 1 0, .int 0 0, .int 0 0, .int 3 0, .ref 87, .bool true, .int 181 0, .ref 88, .none, .none, .none, .ref 89, .int 1826 0, .int 118 0, .str (⟨#[47, 99, 108, 97, 105, 109, 47, 99, 117, 116, 46, 112, 121]⟩) 1827], #[]⟩
noncomputable def hdO91v0 (P : Params) : Obj := hdFn 26 (.type "function") 3 (.none) (.none) (.none) (.str (⟨#[108, 97, 119, 95, 110, 121, 48, 49, 54, 49, 95, 48, 49]⟩) 1799) (.ref 90)
noncomputable def hdO92v0 (P : Params) : Obj := ⟨.type "tuple", none, .seq #[] 0, #[]⟩
noncomputable def hdO93v0 (P : Params) : Obj := ⟨.none, none, .fields #[], #[]⟩
noncomputable def hdO94v0 (P : Params) : Obj := ⟨.type "tuple", none, .seq #[.str (⟨#[105, 116, 101, 109, 115]⟩) 1832, .str (⟨#[109, 97, 114, 107]⟩) 1833, .str (⟨#[116, 111, 108, 100]⟩) 1834, .str (⟨#[119, 97, 105, 116, 115]⟩) 1835, .str (⟨#[108, 105, 110, 101]⟩) 1836, .str (⟨#[119, 105, 100, 116, 104]⟩) 1837, .str (⟨#[110, 117, 109, 98, 101, 114]⟩) 1838, .str (⟨#[115, 104, 105, 101, 108, 100, 101, 100]⟩) 1839, .str (⟨#[108, 111, 115, 116]⟩) 1840, .str (⟨#[115, 105, 103, 110]⟩) 1841] 0, #[]⟩
noncomputable def hdO95v0 (P : Params) : Obj := ⟨.type "tuple", none, .seq #[] 0, #[]⟩
noncomputable def hdO96v0 (P : Params) : Obj := hdFn 27 (.none) 0 (.none) (.none) (.none) (.none) (.none)
noncomputable def hdO97v0 (P : Params) : Obj := ⟨.type "code", none, .fields #[.str (⟨#[95, 108, 97, 119, 95, 100, 117, 101]⟩) 1829, .str (⟨#[95, 108, 97, 119, 95, 100, 117, 101]⟩) 1830, .str (⟨#[47, 99, 108, 97, 105, 109, 47, 99, 117, 116, 46, 112, 121]⟩) 1831, .int 126 0, .int 2 0, .int 0 0, .int 0 0, .int 3 0, .ref 92, .bool true, .int 181 0, .ref 93, .none, .ref 94, .ref 95, .ref 96, .int 1842 0, .int 126 0, .str (⟨#[47, 99, 108, 97, 105, 109, 47, 99, 117, 116, 46, 112, 121]⟩) 1843], #[]⟩
noncomputable def hdO98v0 (P : Params) : Obj := hdFn 27 (.type "function") 3 (.none) (.none) (.none) (.str (⟨#[108, 97, 119, 95, 110, 121, 48, 49, 54, 49, 95, 48, 49]⟩) 1799) (.ref 97)
noncomputable def hdO99v0 (P : Params) : Obj := ⟨.type "tuple", none, .seq #[] 0, #[]⟩
noncomputable def hdO100v0 (P : Params) : Obj := ⟨.none, none, .fields #[], #[]⟩
noncomputable def hdO101v0 (P : Params) : Obj := hdFn 28 (.none) 0 (.none) (.none) (.none) (.none) (.none)
noncomputable def hdO102v0 (P : Params) : Obj := ⟨.type "code", none, .fields #[.str (⟨#[108, 97, 119]⟩) 1845, .str (⟨#[108, 97, 119]⟩) 1846, .str (⟨#[47, 99, 108, 97, 105, 109, 47, 99, 117, 116, 46, 112, 121]⟩) 1847, .int 144 0, .int 1 0, .int 0 0, .int 0 0, .int 3 0, .ref 99, .bool true, .int 181 0, .ref 100, .none, .none, .none, .ref 101, .int 1848 0, .int 144 0, .str (⟨#[47, 99, 108, 97, 105, 109, 47, 99, 117, 116, 46, 112, 121]⟩) 1849], #[]⟩
noncomputable def hdO103v0 (P : Params) : Obj := hdFn 28 (.type "function") 3 (.none) (.none) (.none) (.str (⟨#[108, 97, 119, 95, 110, 121, 48, 49, 54, 49, 95, 48, 49]⟩) 1799) (.ref 102)
noncomputable def hdS8t (P : Params) : BT := (.node (PySem.W.boot_o_0 P) (.node (PySem.W.boot_o_1 P) (.node (hdO3v8 P) (.node (PySem.W.boot_o_7 P) (.node (hdO15v1 P) (.node (hdO31v0 P) (.node (hdO63v0 P) .nil .nil) (.node (hdO95v0 P) .nil .nil)) (.node (hdO47v0 P) (.node (hdO79v0 P) .nil .nil) .nil)) (.node (hdO23v0 P) (.node (hdO39v0 P) (.node (hdO71v0 P) .nil .nil) (.node (hdO103v0 P) .nil .nil)) (.node (hdO55v0 P) (.node (hdO87v0 P) .nil .nil) .nil))) (.node (hdO11v0 P) (.node (hdO19v0 P) (.node (hdO35v0 P) (.node (hdO67v0 P) .nil .nil) (.node (hdO99v0 P) .nil .nil)) (.node (hdO51v0 P) (.node (hdO83v0 P) .nil .nil) .nil)) (.node (hdO27v0 P) (.node (hdO43v0 P) (.node (hdO75v0 P) .nil .nil) .nil) (.node (hdO59v0 P) (.node (hdO91v0 P) .nil .nil) .nil)))) (.node (PySem.W.boot_o_5 P) (.node (PySem.W.boot_o_9 P) (.node (hdO17v1 P) (.node (hdO33v0 P) (.node (hdO65v0 P) .nil .nil) (.node (hdO97v0 P) .nil .nil)) (.node (hdO49v0 P) (.node (hdO81v0 P) .nil .nil) .nil)) (.node (hdO25v0 P) (.node (hdO41v0 P) (.node (hdO73v0 P) .nil .nil) .nil) (.node (hdO57v0 P) (.node (hdO89v0 P) .nil .nil) .nil))) (.node (hdO13v0 P) (.node (hdO21v0 P) (.node (hdO37v0 P) (.node (hdO69v0 P) .nil .nil) (.node (hdO101v0 P) .nil .nil)) (.node (hdO53v0 P) (.node (hdO85v0 P) .nil .nil) .nil)) (.node (hdO29v0 P) (.node (hdO45v0 P) (.node (hdO77v0 P) .nil .nil) .nil) (.node (hdO61v0 P) (.node (hdO93v0 P) .nil .nil) .nil))))) (.node (PySem.W.boot_o_2 P) (.node (PySem.W.boot_o_4 P) (.node (PySem.W.boot_o_8 P) (.node (hdO16v1 P) (.node (hdO32v0 P) (.node (hdO64v0 P) .nil .nil) (.node (hdO96v0 P) .nil .nil)) (.node (hdO48v0 P) (.node (hdO80v0 P) .nil .nil) .nil)) (.node (hdO24v1 P) (.node (hdO40v0 P) (.node (hdO72v0 P) .nil .nil) .nil) (.node (hdO56v0 P) (.node (hdO88v0 P) .nil .nil) .nil))) (.node (hdO12v2 P) (.node (hdO20v0 P) (.node (hdO36v0 P) (.node (hdO68v0 P) .nil .nil) (.node (hdO100v0 P) .nil .nil)) (.node (hdO52v0 P) (.node (hdO84v0 P) .nil .nil) .nil)) (.node (hdO28v1 P) (.node (hdO44v0 P) (.node (hdO76v0 P) .nil .nil) .nil) (.node (hdO60v0 P) (.node (hdO92v0 P) .nil .nil) .nil)))) (.node (PySem.W.boot_o_6 P) (.node (PySem.W.boot_o_10 P) (.node (hdO18v1 P) (.node (hdO34v0 P) (.node (hdO66v0 P) .nil .nil) (.node (hdO98v0 P) .nil .nil)) (.node (hdO50v0 P) (.node (hdO82v0 P) .nil .nil) .nil)) (.node (hdO26v0 P) (.node (hdO42v0 P) (.node (hdO74v0 P) .nil .nil) .nil) (.node (hdO58v0 P) (.node (hdO90v0 P) .nil .nil) .nil))) (.node (hdO14v0 P) (.node (hdO22v2 P) (.node (hdO38v0 P) (.node (hdO70v0 P) .nil .nil) (.node (hdO102v0 P) .nil .nil)) (.node (hdO54v0 P) (.node (hdO86v0 P) .nil .nil) .nil)) (.node (hdO30v0 P) (.node (hdO46v1 P) (.node (hdO78v0 P) .nil .nil) .nil) (.node (hdO62v0 P) (.node (hdO94v0 P) .nil .nil) .nil))))))
noncomputable def hdS8 (w : World) (os : OsState) : SharedT := ⟨hdS8t w.params, 104, {}, #[], ⟨0, 0, 0, 0⟩, 1851, os⟩
theorem hdP8 (w : World) (os : OsState) : (hdRun w 295 (hdS7 w os) (hdTh (hdSts 18 11) ⟨22, 9, 22, 16⟩)) = some (.next, hdS8 w os, hdC, ⟨144, 0, 154, 15⟩) := by kernel_rfl
theorem hdR8 (w : World) (os : OsState) : hdRunS w 295 (hdS7 w os).abs (piecesOf (hdSts 18 11) hdEnv hdC ⟨22, 9, 22, 16⟩ hdF) = some (.next, (hdS8 w os).abs, hdC, ⟨144, 0, 154, 15⟩) := hdOf (hdP8 w os)
noncomputable def hdSfh (P : Params) : Heap := ⟨List.toArray (PySem.W.boot_o_0 P :: PySem.W.boot_o_1 P :: PySem.W.boot_o_2 P :: hdO3v8 P :: PySem.W.boot_o_4 P :: PySem.W.boot_o_5 P :: PySem.W.boot_o_6 P :: PySem.W.boot_o_7 P :: PySem.W.boot_o_8 P :: PySem.W.boot_o_9 P :: PySem.W.boot_o_10 P :: hdO11v0 P :: hdO12v2 P :: hdO13v0 P :: hdO14v0 P :: hdO15v1 P :: hdO16v1 P :: hdO17v1 P :: hdO18v1 P :: hdO19v0 P :: hdO20v0 P :: hdO21v0 P :: hdO22v2 P :: hdO23v0 P :: hdO24v1 P :: hdO25v0 P :: hdO26v0 P :: hdO27v0 P :: hdO28v1 P :: hdO29v0 P :: hdO30v0 P :: hdO31v0 P :: hdO32v0 P :: hdO33v0 P :: hdO34v0 P :: hdO35v0 P :: hdO36v0 P :: hdO37v0 P :: hdO38v0 P :: hdO39v0 P :: hdO40v0 P :: hdO41v0 P :: hdO42v0 P :: hdO43v0 P :: hdO44v0 P :: hdO45v0 P :: hdO46v1 P :: hdO47v0 P :: hdO48v0 P :: hdO49v0 P :: hdO50v0 P :: hdO51v0 P :: hdO52v0 P :: hdO53v0 P :: hdO54v0 P :: hdO55v0 P :: hdO56v0 P :: hdO57v0 P :: hdO58v0 P :: hdO59v0 P :: hdO60v0 P :: hdO61v0 P :: hdO62v0 P :: hdO63v0 P :: hdO64v0 P :: hdO65v0 P :: hdO66v0 P :: hdO67v0 P :: hdO68v0 P :: hdO69v0 P :: hdO70v0 P :: hdO71v0 P :: hdO72v0 P :: hdO73v0 P :: hdO74v0 P :: hdO75v0 P :: hdO76v0 P :: hdO77v0 P :: hdO78v0 P :: hdO79v0 P :: hdO80v0 P :: hdO81v0 P :: hdO82v0 P :: hdO83v0 P :: hdO84v0 P :: hdO85v0 P :: hdO86v0 P :: hdO87v0 P :: hdO88v0 P :: hdO89v0 P :: hdO90v0 P :: hdO91v0 P :: hdO92v0 P :: hdO93v0 P :: hdO94v0 P :: hdO95v0 P :: hdO96v0 P :: hdO97v0 P :: hdO98v0 P :: hdO99v0 P :: hdO100v0 P :: hdO101v0 P :: hdO102v0 P :: hdO103v0 P :: []), {}⟩
noncomputable def hdSf (w : World) (os : OsState) : Shared := ⟨hdSfh w.params, #[], ⟨0, 0, 0, 0⟩, 1851, os⟩
theorem hdFin (w : World) (os : OsState) : topRun treeTable hdProg w 11 (some (.ref 6)) 2 (hdS8 w os).abs ⟨doneF .next, hdC, ⟨144, 0, 154, 15⟩, hdF⟩ = some (hdSf w os) := by kernel_rfl
theorem hdBody : hdB = hdSts 0 2 ++ (hdSts 2 1 ++ (hdSts 3 8 ++ (hdSts 11 1 ++ (hdSts 12 1 ++ (hdSts 13 1 ++ (hdSts 14 3 ++ (hdSts 17 1 ++ (hdSts 18 11 ++ [])))))))) := by kernel_rfl
theorem hdTop (w : World) (os : OsState) : topRun treeTable hdProg w 11 (some (.ref 6)) (12 + (1 + (19 + (9552 + (133 + (3077 + (25 + (4303 + (86 + (118 + (295 + 2))))))))))) ⟨boot_heap w.params, Array.mk [], boot_drawn, boot_toks, os⟩ (topStub hdProg) = some (hdSf w os) := by
  have k : topRun treeTable hdProg w 11 (some (.ref 6)) (19 + (9552 + (133 + (3077 + (25 + (4303 + (86 + (118 + (295 + 2))))))))) (hdS w os).abs (restOf (hdSts 0 2 ++ (hdSts 2 1 ++ (hdSts 3 8 ++ (hdSts 11 1 ++ (hdSts 12 1 ++ (hdSts 13 1 ++ (hdSts 14 3 ++ (hdSts 17 1 ++ (hdSts 18 11 ++ []))))))))) hdEnv hdC ⟨0, 0, 0, 0⟩ hdF) = some (hdSf w os) :=
    piece_app (hdR0 w os) (piece_app (hdR1 w os) (piece_app (hdR2 w os) (piece_app (hdR3 w os) (piece_app (hdR4 w os) (piece_app (hdR5 w os) (piece_app (hdR6 w os) (piece_app (hdR7 w os) (piece_app (hdR8 w os) (hdFin w os)))))))))
  have k2 : topRun treeTable hdProg w 11 (some (.ref 6)) (19 + (9552 + (133 + (3077 + (25 + (4303 + (86 + (118 + (295 + 2))))))))) (hdS w os).abs (restOf hdB hdEnv hdC ⟨0, 0, 0, 0⟩ hdF) = some (hdSf w os) :=
    (congrArg (fun l => topRun treeTable hdProg w 11 (some (.ref 6)) (19 + (9552 + (133 + (3077 + (25 + (4303 + (86 + (118 + (295 + 2))))))))) (hdS w os).abs (restOf l hdEnv hdC ⟨0, 0, 0, 0⟩ hdF)) hdBody).trans k
  exact go_top (hdPre w os) (piece_block (hdBlock w os) k2)
noncomputable def hdHook : Hook := kHook hdK hdAs (fun _ => by kernel_rfl)
noncomputable abbrev hdX (s : Shared) : Bool := xlAt hdView hdLv s && recOk (RowW.records (OpenRow.toRowW PySem.Challenge.rw_ny0161_01.row)) s
theorem hdOpen (w : World) : (fencedOpening treeTable hdProg w 35324).map (fun s => (s.heap, s.gens, s.drawn, s.toks)) = some (boot_heap w.params, Array.mk [], boot_drawn, boot_toks) := by kernel_rfl
theorem hdSize (w : World) : ((boot_heap w.params).isNs mainGlobals && (Array.mk [] : Array GenState).size == 0, (boot_heap w.params).objs.size, (boot_heap w.params).nsMap mainGlobals "__annotations__") = (true, 11, (some (.ref 6))) := by kernel_rfl
theorem hdLooks (w : World) : (fun os => ((staticsOk (importedModules hdProg.main.body) (boot_heap w.params) (hdSfh w.params) && namesBound hdProg (hdSfh w.params) && gensDone ⟨hdSfh w.params, #[], ⟨0, 0, 0, 0⟩, 1851, os⟩ && laidKept (boot_heap w.params) (hdSfh w.params)),
    openSeen hdView hdLoose (importedModules hdProg.main.body) hdX true ⟨hdSfh w.params, #[], ⟨0, 0, 0, 0⟩, 1851, os⟩, Hook.obs hdHook ⟨hdSfh w.params, #[], ⟨0, 0, 0, 0⟩, 1851, os⟩)) = fun _ => (true, openGood hdView hdLoose, Hook.val hdHook w) := by kernel_rfl
theorem hdLeft : LeftO hdProg hdView hdLoose hdX (Hook.obs hdHook) (Hook.val hdHook) 35324 :=
  LeftO.of_pieces hdOpen hdSize hdTop (by kernel_rfl) hdLooks
end Mine
-- text B1
namespace Mine
open PySem.Calls PySem.Spec
/-- a mark at which the walker halts -/
def Stop (P : Prop) : Prop := P
theorem Stop.out {P : Prop} (h : Stop P) : P := h
/-- what a body leaves behind: its own frame and its own objects, all that stood before is as it was -/
def Back (g : Heap) (L' : Addr) (s₀ : Shared) (Post : Value → List (Addr × Obj) → Prop) (v : Value) (s' : Shared) : Prop :=
  ∃ nw m' h' tk', s' = { s₀ with heap := h', toks := tk' } ∧ Post v nw ∧ Fr g L' h' m' ∧ News g L' h' nw
def Cl (prog : Program) (w : World) (K : Frag) (p : Program) (loose : List Str) (mean : ExcName → Option Value) (mg mb : Str → Option Value) (f : Addr) (lv : Nat) (pre : Heap → Prop) (vs : List Value) (Post : Value → List (Addr × Obj) → Prop) : Prop :=
  ∀ (dp un : Nat) (gd : Option (List Code)) (cn : Str) (cs : Scope) (a : Addr) (ccd : Value) (cl : List (Str × Addr)) (outer : List Env) (A₀ : Around) (base h₀ : Heap) (L : Addr) (m : Str → Option Value) (news : List (Addr × Obj)) (s : Shared) (Q E : Value → Shared → Prop),
    Below A₀ base outer h₀ → Fr h₀ L s.heap m → K.In h₀ → News h₀ L s.heap news → Top p loose mean mg mb h₀ → cs.kind = .function → pre s.heap → dp + lv + 1 < recursionLimit → un + 10 * lv + 10 < cLine →
    (∀ v nw h' tk', Post v nw → Fr h₀ L h' m → News h₀ L h' (nw ++ news) → (∀ p ∈ nw, s.heap.get? p.1 = none) → (∀ b o, s.heap.get? b = some o → h'.get? b = some o) → Q v { s with heap := h', toks := tk' }) →
    wpAny (model prog w) (ktrTop dp un gd cn cs L a ccd cl outer) (call (.ref f) vs) Q E s
section
variable {prog : Program} {w : World} {K : Frag} {p : Program} {loose : List Str} {mean : ExcName → Option Value} {mg mb : Str → Option Value} {f : Addr} {lv : Nat} {pre : Heap → Prop} {vs : List Value} {Post : Value → List (Addr × Obj) → Prop}
  {name qual : Str} {params : Arguments} {body : List Stmt} {scope : Scope} {dV kV doc pm cdv ct oc : Value} {an od : Option Addr} {osl : Array (Option Value)} {binds : List (Str × Value)}
theorem Cl.intro (ho : K.lookup f = some ⟨oc, od, .func (fnOf name qual params body scope dV kV doc pm an cdv ct), osl⟩) (hcd : codeIn K cdv qual = true)
    (hbind : ∀ s : Shared, K.In s.heap → BindsTo s (fnOf name qual params body scope dV kV doc pm an cdv ct) ⟨vs, []⟩ binds) (hloc : ∀ y ∈ binds, scope.names.lookup y.1 = some .local)
    (hco : scope.isCoroutine = false) (hgen : scope.isGenerator = false) (hk : scope.kind = .function) (hcell : ∀ x ∈ scope.names, x.2 ≠ .cell)
    (h : ∀ (dp un : Nat) (gd : Option (List Code)) (outer : List Env) (A₀ : Around) (base g : Heap) (L' : Addr) (s : Shared), Below A₀ base outer g → Fr g L' s.heap (fun y => binds.reverse.lookup y) → News g L' s.heap [] → K.In g → Top p loose mean mg mb g → pre g →
      dp + lv < recursionLimit → un + 10 * lv + 7 < cLine →
      wpAny (model prog w) (ktrTop dp un gd qual scope L' f cdv [] outer) (execs body (envOf qual scope L' f cdv))
        (fun fl s' => Back g L' s Post (match fl with | .ret v => v | _ => .none) s') (fun _ _ => False) s) :
    Cl prog w K p loose mean mg mb f lv pre vs Post := by
  intro dp un gd cn cs a ccd cl outer A₀ base h₀ L m news s Q E B F X N T hck hpre hdp hun hret
  refine wpAny_call ?_
  obtain ⟨FG, BG, st, lv⟩ := groundX (R := fun r s' => match r with | .ok (.ret v) => Q v s' | .ok _ => False | .error e => E e s') (A := ktrTop dp un gd cn cs L a ccd cl outer) B F (News.nil (h₀ := h₀) (L := L) (h := s.heap)) rfl rfl hck
  have Xs := X.keeps F.keep
  refine codeAny_call_def (fd := fnOf name qual params body scope dV kV doc pm an cdv ct) (body := body) (binds := binds) (by show dp < _; omega) (Xs _ _ ho) rfl (T.nolimit.keeps F.keep) (codeRec_of Xs hcd) rfl (hbind s Xs) hcell hloc (fun h₁ hns hk₁ => ?_) hco hgen hk
  refine wpAny_mono (h (dp + 1) (un + 3) gd (envX cn cs L a ccd cl :: outer) (ktrTop dp un gd cn cs L a ccd cl outer) base s.heap s.heap.objs.size { s with heap := h₁, toks := s.toks + binds.length } BG ⟨hns, hk₁, Nat.le_refl _⟩ News.nil Xs (T.keeps F.keep) hpre (by omega) (by omega)) (fun fl s' hb => ?_) fun _ _ x => x.elim
  obtain ⟨nw, m', h', tk', rfl, hP, F', N'⟩ := hb
  refine lv _ _ ⟨_, m', nw, F', N', fun kF kN => ?_⟩
  refine hret _ nw h' tk' hP kF (fun q hq => ?_) (fun q hq => (N' q hq).2.2) F'.keep
  rcases List.mem_append.mp hq with hq | hq
  · exact kN q hq
  · exact ⟨F'.keep _ _ (N q hq).1, (N q hq).2⟩
theorem Cl.use (C : Cl prog w K p loose mean mg mb f lv pre vs Post) {dp un : Nat} {gd : Option (List Code)} {cn : Str} {cs : Scope} {a : Addr} {ccd : Value} {cl : List (Str × Addr)} {outer : List Env} {A₀ : Around} {base h₀ : Heap} {L : Addr} {m : Str → Option Value} {news : List (Addr × Obj)} {s : Shared} {Q E : Value → Shared → Prop}
    (B : Below A₀ base outer h₀) (F : Fr h₀ L s.heap m) (X : K.In h₀) (N : News h₀ L s.heap news) (T : Top p loose mean mg mb h₀) (hk : cs.kind = .function) (hp : pre s.heap) (hd : dp + lv + 1 < recursionLimit) (hu : un + 10 * lv + 10 < cLine)
    (ret : ∀ v nw h' tk', Post v nw → Fr h₀ L h' m → News h₀ L h' (nw ++ news) → (∀ p ∈ nw, s.heap.get? p.1 = none) → (∀ b o, s.heap.get? b = some o → h'.get? b = some o) → Q v { s with heap := h', toks := tk' }) :
    wpAny (model prog w) (ktrTop dp un gd cn cs L a ccd cl outer) (call (.ref f) vs) Q E s :=
  C dp un gd cn cs a ccd cl outer A₀ base h₀ L m news s Q E B F X N T hk hp hd hu ret
end
end Mine
-- text H1
namespace Mine
open PySem.Calls PySem.Spec
def hexv (c : Nat) : Nat := if c ≤ 57 then c - 48 else if 97 ≤ c then c - 87 else c - 55
def isHex (c : Nat) : Bool := (48 ≤ c && c ≤ 57) || (97 ≤ c && c ≤ 102) || (65 ≤ c && c ≤ 70)
def isVal (x : int_private% "Numeral") (n : Int) : Bool := by
  cases x with
  | value i => exact decide (i = n)
  | _ => exact false
theorem isVal_eq {x : int_private% "Numeral"} {n : Int} (h : isVal x n = true) : x = (int_private% "Numeral.value") n := by
  cases x with
  | value i => have : i = n := of_decide_eq_true h; rw [this]
  | _ => cases h
def hexList : List Nat := [48, 49, 50, 51, 52, 53, 54, 55, 56, 57, 97, 98, 99, 100, 101, 102, 65, 66, 67, 68, 69, 70]
theorem hex_mem {c : Nat} (h : isHex c = true) : c ∈ hexList := by
  have h1 : c < 103 := by simp only [isHex, Bool.or_eq_true, Bool.and_eq_true, decide_eq_true_eq] at h; omega
  exact (by decide : ∀ c, c < 103 → isHex c = true → c ∈ hexList) c h1 h
theorem read16' : ∀ a ∈ hexList, ∀ b ∈ hexList, isVal ((int_private% "readNumeral") 0 16 [a, b]) ((16 * hexv a + hexv b : Nat) : Int) = true := by decide +kernel
theorem read16 {a b : Nat} (ha : isHex a = true) (hb : isHex b = true) : (int_private% "readNumeral") 0 16 [a, b] = (int_private% "Numeral.value") ((16 * hexv a + hexv b : Nat) : Int) := isVal_eq (read16' a (hex_mem ha) b (hex_mem hb))
theorem wp_text16 {M : Model} {A : Around} {E : Value → Shared → Prop} {s : Shared} {Q : Value → Shared → Prop} {v : Value} {text : List Nat} {n : Int} {base : Nat} (hb : base = 16)
    (hs : (text.takeWhile (· != 0)).length ≤ 640) (hr : (int_private% "readNumeral") 0 16 (text.takeWhile (· != 0)) = (int_private% "Numeral.value") n)
    (ha : ((text.takeWhile (· != 0)).length == text.length) = true) (h : Q (.int n s.toks) { s with toks := s.toks + 1 }) :
    wpAny M A ((int_private% "intFromText") v text base) Q E s := by
  subst hb
  obtain ⟨hp, g, d, tk, os⟩ := s
  repeat (any_goals (first
    | assumption
    | (with_reducible refine wpAny_ite_true (decide_eq_true hs) ?_)
    | (with_reducible refine wpAny_ite_true (decide_eq_true ha) ?_)
    | wp_step))
  all_goals (try rw [hr])
  all_goals (try dsimp only)
  repeat (any_goals (first
    | assumption
    | (with_reducible refine wpAny_ite_true (decide_eq_true hs) ?_)
    | (with_reducible refine wpAny_ite_true (decide_eq_true ha) ?_)
    | wp_step))
theorem hex_ne0 {a : Nat} (h : isHex a = true) : (a != 0) = true ∧ a < 128 := by
  simp only [isHex, Bool.or_eq_true, Bool.and_eq_true, decide_eq_true_eq] at h
  constructor
  · simp only [bne_iff_ne, ne_eq]; omega
  · omega
set_option maxHeartbeats 4000000 in
theorem gives16 {a b : Nat} {u t : Tok} (ha : isHex a = true) (hb : isHex b = true) : Gives (Builtin.«int.__new__» ⟨[.type "int", .str ⟨#[a, b]⟩ u, .int 16 t], []⟩) (.int ((16 * hexv a + hexv b : Nat) : Int)) :=
  .of_wp fun M A E s Q h => by
    obtain ⟨hp, g, d, tk, os⟩ := s
    have f1 := F.conv_sub_int
    have f2 := F.madeHere_int
    have h1 := hex_ne0 ha
    have h2 := hex_ne0 hb
    have e1 : [a, b].takeWhile (· != 0) = [a, b] := by simp only [List.takeWhile, h1.1, h2.1]
    have e2 : (#[a, b] : Array Nat).all (· < 128) = true := by simp [h1.2, h2.2]
    have hr := read16 ha hb
    have e3 : (if ((⟨#[a, b]⟩ : Str).cps.all fun x => decide (x < 128)) = true then (⟨#[a, b]⟩ : Str).cps.toList else Unicode.numberText (⟨#[a, b]⟩ : Str).cps.toList) = [a, b] := if_pos e2
    have hk := KIN.Hid.mk (And.intro e1 (And.intro hr e3))
    clear e1 e2 hr e3
    repeat (any_goals (first
      | assumption
      | ((with_reducible show wpAny _ _ ((int_private% "intFromText") _ _ _) _ _ _); refine Stop.out ?_)
      | wp_step))
    unfold Stop
    rw [hk.out.2.2]
    refine wp_text16 (n := ((16 * hexv a + hexv b : Nat) : Int)) rfl (by rw [hk.out.1]; exact Nat.le_of_ble_eq_true rfl) (by rw [hk.out.1]; exact hk.out.2.1) (by rw [hk.out.1]; rfl) ?_
    repeat (any_goals (first
      | assumption
      | wp_step))
    exact ⟨_, rfl, h⟩
namespace FF
theorem typeCall_int_2 (a b : Value) : checkTypeCall "int" ⟨[a, b], []⟩ = pure () := by kernel_rfl
theorem newCall_int_2 (a b : Value) : checkBuiltinCall "int.__new__" ⟨[.type "int", a, b], []⟩ = pure () := by kernel_rfl
theorem args_object_init_3 (a b c : Value) : argsOk "object.__init__" ⟨[a, b, c], []⟩ := by unfold argsOk; kernel_rfl
end FF
section
variable {prog : Program} {w : World} {A : Around} {E : Value → Shared → Prop} {s : Shared}
theorem call_hex {a b : Nat} {u t : Tok} {Q : Value → Shared → Prop} (ha : isHex a = true) (hb : isHex b = true) (h : Q (.int ((16 * hexv a + hexv b : Nat) : Int) s.toks) { s with toks := s.toks + 1 }) :
    wpAny (model prog w) A (call (.type "int") [.str ⟨#[a, b]⟩ u, .int 16 t]) Q E s :=
  callType_new F.called_int F.newNe_int (FF.typeCall_int_2 _ _) (FF.newCall_int_2 _ _) (fun obj => FF.args_object_init_3 obj _ _) F.entry_int_new (gives16 ha hb).meets (show (Made.int _).post _ s from ⟨rfl, h⟩)
end
end Mine
-- text B2
namespace Mine
open PySem.Calls PySem.Spec
section
variable {prog : Program} {w : World} {A : Around} {E : Value → Shared → Prop} {s : Shared} {env : Env} {h₀ : Heap} {x : Str} {body : List Stmt} {Q : Flow → Shared → Prop}
/-- a turn's end: the next state, what the loop holds, the frame's other names -/
def TurnEnd {σ : Type} (h₀ : Heap) (L : Addr) (s : Shared) (Led : σ → List (Addr × Obj)) (ps : σ → List (Str × Value)) (x : Str) (stored : List Str) (m₀ : Str → Option Value) (P : σ → Prop) (own : List (Addr × Obj)) (s₂ : Shared) : Prop :=
  ∃ (c' : σ) (h' : Heap) (tk : Nat) (m' : Str → Option Value) (news' : List (Addr × Obj)), s₂ = { s with heap := h', toks := tk } ∧ Fr h₀ L h' m' ∧ News h₀ L h' news' ∧ (∀ p ∈ Led c', p ∈ news') ∧ (∀ p ∈ own, p ∈ news') ∧ OwnOff own ((Led c').map (·.1)) ∧
    (∀ p ∈ ps c', m' p.1 = some p.2) ∧ (∀ z, z ≠ x → (∀ p ∈ ps c', z ≠ p.1) → stored.contains z = false → m' z = m₀ z) ∧ P c'
def Turn {σ : Type} (h₀ : Heap) (L : Addr) (s : Shared) (Led : σ → List (Addr × Obj)) (ps : σ → List (Str × Value)) (x : Str) (stored : List Str) (m₀ : Str → Option Value) (P : σ → Prop) (own : List (Addr × Obj)) (Q : Flow → Shared → Prop) (f : Flow) (s₂ : Shared) : Prop :=
  match f with
  | .ret v => Q (.ret v) s₂
  | .brk => Q .next s₂
  | _ => TurnEnd h₀ L s Led ps x stored m₀ P own s₂
theorem turn_next {σ : Type} {L : Addr} {Led : σ → List (Addr × Obj)} {ps : σ → List (Str × Value)} {stored : List Str} {m₀ m' : Str → Option Value} {P : σ → Prop} {own news' : List (Addr × Obj)} {h' : Heap} {tk : Nat} (c' : σ)
    (F : Fr h₀ L h' m') (N : News h₀ L h' news') (hn : ∀ p ∈ Led c', p ∈ news') (ho : ∀ p ∈ own, p ∈ news') (ha : OwnOff own ((Led c').map (·.1))) (hk : ∀ p ∈ ps c', m' p.1 = some p.2) (hr : ∀ z, z ≠ x → (∀ p ∈ ps c', z ≠ p.1) → stored.contains z = false → m' z = m₀ z) (hp : P c') :
    Turn h₀ L s Led ps x stored m₀ P own Q .next { s with heap := h', toks := tk } := ⟨c', h', tk, m', news', rfl, F, N, hn, ho, ha, hk, hr, hp⟩
theorem turn_cont {σ : Type} {L : Addr} {Led : σ → List (Addr × Obj)} {ps : σ → List (Str × Value)} {stored : List Str} {m₀ m' : Str → Option Value} {P : σ → Prop} {own news' : List (Addr × Obj)} {h' : Heap} {tk : Nat} (c' : σ)
    (F : Fr h₀ L h' m') (N : News h₀ L h' news') (hn : ∀ p ∈ Led c', p ∈ news') (ho : ∀ p ∈ own, p ∈ news') (ha : OwnOff own ((Led c').map (·.1))) (hk : ∀ p ∈ ps c', m' p.1 = some p.2) (hr : ∀ z, z ≠ x → (∀ p ∈ ps c', z ≠ p.1) → stored.contains z = false → m' z = m₀ z) (hp : P c') :
    Turn h₀ L s Led ps x stored m₀ P own Q .cont { s with heap := h', toks := tk } := ⟨c', h', tk, m', news', rfl, F, N, hn, ho, ha, hk, hr, hp⟩
theorem for_led {σ : Type} {l : Addr} {vs : List Value} {nn : Nat} {m₀ : Str → Option Value} (Led : σ → List (Addr × Obj)) (ps : σ → List (Str × Value)) (stored : List Str) (P : Nat → σ → Prop) (c₀ : σ)
    (hh : A.handled = none) (hl : ∀ c, (l, listOf vs.toArray nn) ∈ Led c) (F : Fr h₀ env.locals s.heap m₀) (N : News h₀ env.locals s.heap (Led c₀)) (hk : ∀ p ∈ ps c₀, m₀ p.1 = some p.2) (hp : P 0 c₀)
    (turn : ∀ i v (c : σ) (u : Str → Option Value) h tk own, vs[i]? = some v → OwnOff own ((Led c).map (·.1)) → P i c →
      Fr h₀ env.locals h (fun y => if y = x then some v else kstB (fun z => if stored.contains z then u z else m₀ z) (ps c) y) → News h₀ env.locals h (Led c ++ own) →
      wpAny (model prog w) A (execs body env) (Turn h₀ env.locals s Led ps x stored m₀ (P (i + 1)) own Q) E { s with heap := h, toks := tk })
    (done : ∀ (c : σ) (u : Str → Option Value) h tk, P vs.length c → Fr h₀ env.locals h (fun y => if y = x then u y else kstB (fun z => if stored.contains z then u z else m₀ z) (ps c) y) → News h₀ env.locals h (Led c) → Q .next { s with heap := h, toks := tk }) :
    wpAny (model prog w) A (pyIter (.ref l)) (fun it s₂ => LoopAtV prog w A h₀ env x body Q E it s₂) E s := by
  refine kdl_iter (fun i m nx => ∃ c : σ, nx = Led c ∧ (∀ p ∈ ps c, m p.1 = some p.2) ∧ (∀ z, z ≠ x → (∀ p ∈ ps c, z ≠ p.1) → stored.contains z = false → m z = m₀ z) ∧ P i c) hh (hl c₀) F N ⟨c₀, rfl, hk, fun _ _ _ _ => rfl, hp⟩ ?_ ?_
  · rintro i v m₁ nx h tk own hv hoff hm ⟨c, rfl, h1, h2, hp'⟩ F₁ N₁
    refine wpAny_mono (turn i v c m₁ h tk own hv hoff hp' (kst_fr h1 h2 F₁) N₁) (fun f s₂ q => ?_) fun _ _ e => e
    have fin : TurnEnd h₀ env.locals s Led ps x stored m₀ (P (i + 1)) own s₂ → InvEndG h₀ env.locals (fun m' nx => (l, listOf vs.toArray nn) ∈ nx ∧ ∃ c : σ, nx = Led c ∧ (∀ p ∈ ps c, m' p.1 = some p.2) ∧ (∀ z, z ≠ x → (∀ p ∈ ps c, z ≠ p.1) → stored.contains z = false → m' z = m₀ z) ∧ P (i + 1) c) own { s with heap := h, toks := tk } s₂ := by
      rintro ⟨c', h', tk', m', news', e, F', N', hn, ho, ha, h1', h2', hp''⟩
      exact ⟨h', tk', m', news', Led c', e, F', N', hn, ho, ha, hl c', c', rfl, h1', h2', hp''⟩
    cases f with
    | ret v => exact q
    | brk => exact q
    | next => exact fin q
    | cont => exact fin q
  · rintro m₁ nx h tk ⟨c, rfl, h1, h2, hp'⟩ F₁ N₁
    exact done c m₁ h tk hp' (kst_frOut h1 h2 F₁) N₁
theorem iter_base {l : Addr} {vs : List Value} {m₀ : Str → Option Value} {news : List (Addr × Obj)} (J : Nat → (Str → Option Value) → List (Addr × Obj) → Prop)
    (hh : A.handled = none) (hl : h₀.IsList l vs.toArray) (F : Fr h₀ env.locals s.heap m₀) (N : News h₀ env.locals s.heap news) (hj : J 0 m₀ news)
    (turn : ∀ i v m₁ news₁ h tk own, vs[i]? = some v → OwnOff own (news₁.map (·.1)) → J i m₁ news₁ → Fr h₀ env.locals h (fun y => if y = x then some v else m₁ y) → News h₀ env.locals h (news₁ ++ own) →
      wpAny (model prog w) A (execs body env) (InvPostG h₀ env.locals (J (i + 1)) own { s with heap := h, toks := tk } Q) E { s with heap := h, toks := tk })
    (done : ∀ m₁ news₁ h tk, J vs.length m₁ news₁ → Fr h₀ env.locals h m₁ → News h₀ env.locals h news₁ → Q .next { s with heap := h, toks := tk }) :
    wpAny (model prog w) A (pyIter (.ref l)) (fun it s₂ => LoopAtV prog w A h₀ env x body Q E it s₂) E s := by
  have hls : s.heap.IsList l vs.toArray := hl.at fun o e => F.keep l o e
  obtain ⟨ol, hol, _⟩ := id hl
  have hlt : l < h₀.objs.size := Heap.lt_size hol
  have hne : l ≠ s.heap.objs.size := Nat.ne_of_lt (Nat.lt_trans (Nat.lt_of_lt_of_le hlt F.above) F.ns.lt)
  refine wpAny_pyIter_list hls ?_
  have W := Walks.list (prog := prog) (w := w) hh s.heap.objs.size l hne vs.toArray
  have hlen : vs.toArray.size = vs.length := by simp
  rw [hlen] at W
  refine ⟨_, _, _, vs.length, _, _, m₀, news, J, rfl, W, ?_, ?_, ?_, ⟨⟨_, Heap.get?_push_size _ rfl, rfl, rfl⟩, hls.at fun o e => Heap.get?_push_of_some _ e⟩, F.push _, (fun p hp => ⟨Heap.get?_push_of_some _ (N p hp).1, (N p hp).2⟩), hj, ?_, ?_⟩
  · intro hm
    rcases List.mem_cons.mp hm with e | hm
    · exact absurd F.ns.lt (e ▸ Nat.lt_irrefl _)
    · exact absurd (Nat.lt_of_lt_of_le hlt F.above) ((List.mem_singleton.mp hm) ▸ Nat.lt_irrefl _)
  · intro b hb
    rw [List.mem_singleton.mp hb]
    exact next_is_new F
  · intro p hp hI
    exact absurd (Heap.lt_size (N p hp).1) ((List.mem_singleton.mp hI) ▸ Nat.lt_irrefl _)
  · rintro i v m₁ news₁ s₁ own ⟨hh', tk', rfl⟩ hin hP hJ hoff hown hget hfp hst F₁ N₁
    have hP' : vs[i]? = some v := by simpa using hP
    have hsep : OwnOff own (news₁.map (·.1)) := by
      intro p hp b hb e
      obtain ⟨q, hq, rfl⟩ := List.mem_map.mp hb
      rcases List.mem_cons.mp (hown p hp) with h1 | h1
      · exact hoff q hq (List.mem_singleton.mpr (e ▸ h1))
      · have h2 := List.mem_singleton.mp h1
        have h3 := (N₁ q (List.mem_append.mpr (.inr hq))).2.2
        rw [← e, h2, hol] at h3
        cases h3
    have hI0 : h₀.get? s.heap.objs.size = none := next_is_new F
    obtain ⟨⟨oI, hoI, _⟩, _⟩ := id hst
    have hIown := hfp _ (List.mem_cons.mpr (.inl rfl)) hI0 _ hoI
    have N₂ : News h₀ env.locals hh' (news₁ ++ own) := fun p hp => N₁ p ((List.mem_append.mp hp).elim (fun h => List.mem_append.mpr (.inr h)) fun h => List.mem_append.mpr (.inl h))
    refine wpAny_mono (turn i v m₁ news₁ hh' tk' own hP' hsep hJ F₁ N₂) (fun f s₂ p => ?_) fun _ _ e => e
    have fin : InvEndG h₀ env.locals (J (i + 1)) own { s with heap := hh', toks := tk' } s₂ → LoopStepU h₀ env.locals [s.heap.objs.size] own (J (i + 1)) { s with heap := hh', toks := tk' } .next s₂ := by
      rintro ⟨h', tk, m', news', nx, e, F', N', hn, ho, ha, hm⟩
      refine ⟨rfl, h', tk, m', nx, e, F', fun p hp => N' p ((List.mem_append.mp hp).elim (ho p) (hn p)), fun p hp hq => ?_, hm⟩
      exact ha _ hIown p.1 (List.mem_map.mpr ⟨p, hp, rfl⟩) (List.mem_singleton.mp hq).symm
    cases f with
    | ret v => exact .ret p
    | brk => exact .brk p
    | next => exact .next (fin p)
    | cont => exact .cont (fin p)
  · rintro h' tk m' news' F' N' _ hJ
    exact done m' news' h' tk hJ F' N'
theorem for_base {σ : Type} {l : Addr} {vs : List Value} {m₀ : Str → Option Value} (Led : σ → List (Addr × Obj)) (ps : σ → List (Str × Value)) (stored : List Str) (P : Nat → σ → Prop) (c₀ : σ)
    (hh : A.handled = none) (hl : h₀.IsList l vs.toArray) (F : Fr h₀ env.locals s.heap m₀) (N : News h₀ env.locals s.heap (Led c₀)) (hk : ∀ p ∈ ps c₀, m₀ p.1 = some p.2) (hp : P 0 c₀)
    (turn : ∀ i v (c : σ) (u : Str → Option Value) h tk own, vs[i]? = some v → OwnOff own ((Led c).map (·.1)) → P i c →
      Fr h₀ env.locals h (fun y => if y = x then some v else kstB (fun z => if stored.contains z then u z else m₀ z) (ps c) y) → News h₀ env.locals h (Led c ++ own) →
      wpAny (model prog w) A (execs body env) (Turn h₀ env.locals s Led ps x stored m₀ (P (i + 1)) own Q) E { s with heap := h, toks := tk })
    (done : ∀ (c : σ) (u : Str → Option Value) h tk, P vs.length c → Fr h₀ env.locals h (fun y => if y = x then u y else kstB (fun z => if stored.contains z then u z else m₀ z) (ps c) y) → News h₀ env.locals h (Led c) → Q .next { s with heap := h, toks := tk }) :
    wpAny (model prog w) A (pyIter (.ref l)) (fun it s₂ => LoopAtV prog w A h₀ env x body Q E it s₂) E s := by
  refine iter_base (fun i m nx => ∃ c : σ, nx = Led c ∧ (∀ p ∈ ps c, m p.1 = some p.2) ∧ (∀ z, z ≠ x → (∀ p ∈ ps c, z ≠ p.1) → stored.contains z = false → m z = m₀ z) ∧ P i c) hh hl F N ⟨c₀, rfl, hk, fun _ _ _ _ => rfl, hp⟩ ?_ ?_
  · rintro i v m₁ nx h tk own hv hoff ⟨c, rfl, h1, h2, hp'⟩ F₁ N₁
    refine wpAny_mono (turn i v c m₁ h tk own hv hoff hp' (kst_fr h1 h2 F₁) N₁) (fun f s₂ q => ?_) fun _ _ e => e
    have fin : TurnEnd h₀ env.locals s Led ps x stored m₀ (P (i + 1)) own s₂ → InvEndG h₀ env.locals (fun m' nx => ∃ c : σ, nx = Led c ∧ (∀ p ∈ ps c, m' p.1 = some p.2) ∧ (∀ z, z ≠ x → (∀ p ∈ ps c, z ≠ p.1) → stored.contains z = false → m' z = m₀ z) ∧ P (i + 1) c) own { s with heap := h, toks := tk } s₂ := by
      rintro ⟨c', h', tk', m', news', e, F', N', hn, ho, ha, h1', h2', hp''⟩
      exact ⟨h', tk', m', news', Led c', e, F', N', hn, ho, ha, c', rfl, h1', h2', hp''⟩
    cases f with
    | ret v => exact q
    | brk => exact q
    | next => exact fin q
    | cont => exact fin q
  · rintro m₁ nx h tk ⟨c, rfl, h1, h2, hp'⟩ F₁ N₁
    exact done c m₁ h tk hp' (kst_frOut h1 h2 F₁) N₁
end
theorem strs_at {l : List (Str × Tok)} {i : Nat} {v : Value} (h : (strValues l)[i]? = some v) : ∃ a ta, v = Value.str a ta ∧ (l.map (·.1))[i]? = some a := by
  have e : strValues l = l.map fun p => Value.str p.1 p.2 := rfl
  rw [e, List.getElem?_map] at h
  cases hq : l[i]? with
  | none => rw [hq] at h; cases h
  | some q =>
    rw [hq] at h
    exact ⟨q.1, q.2, (Option.some.inj h).symm, by rw [List.getElem?_map, hq]; rfl⟩
theorem push_strs (ps : List (Str × Tok)) (a : Str) (t : Tok) : (strValues ps).toArray.push (Value.str a t) = (strValues (ps ++ [(a, t)])).toArray := by simp [strValues]
end Mine
-- text T1
namespace Mine
open PySem.Builtin PySem.Builtin.Str
abbrev ch (x : PySem.Str) : List Nat := x.cps.toList
theorem ch_len (x : PySem.Str) : (ch x).length = x.length := by simp [ch, PySem.Str.length]
theorem ext_ch {x y : PySem.Str} (h : ch x = ch y) : x = y := PySem.Str.ext' (Array.toList_inj.mp h)
theorem ch_app (x y : PySem.Str) : ch (x ++ y) = ch x ++ ch y := by simp [ch, PySem.Str.cps_append]
theorem ch_one (c : Nat) : ch ⟨#[c]⟩ = [c] := rfl
theorem item_ch {x : PySem.Str} {i : Int} (h0 : 0 ≤ i) (h1 : i < x.length) : Txt.item x i = ⟨#[(ch x).getD i.toNat 0]⟩ := by
  unfold Txt.item Txt.charAt seqIndex?
  have h2 : ¬ i < 0 := by omega
  have h3 : i.toNat < x.cps.size := by have := ch_len x; simp only [PySem.Str.length] at h1; omega
  simp [h2, h0, h1, h3, ch]
theorem item_last {x : PySem.Str} (h : x.length ≠ 0) : Txt.item x (-1) = ⟨#[(ch x).getD (x.length - 1) 0]⟩ := by
  unfold Txt.item Txt.charAt seqIndex?
  have h1 : (-1 : Int) < 0 := by decide
  have h2 : (0 : Int) ≤ -1 + (x.length : Int) := by omega
  have h3 : (-1 : Int) + (x.length : Int) < x.length := by omega
  have h4 : ((-1 : Int) + (x.length : Int)).toNat = x.length - 1 := by omega
  have h5 : x.length - 1 < x.cps.size := by simp only [PySem.Str.length] at h ⊢; omega
  simp only [h1, if_true, h2, h3, decide_true, Bool.and_self, h4]
  simp [h5, ch]
def clipN (d : Nat) (v : Option Int) (n : Nat) : Nat := match v with
  | none => d
  | some i => (max 0 (min (if i < 0 then i + n else i) (n : Int))).toNat
theorem slice_gen (x : PySem.Str) (l u : Option Int) : ch (Txt.slice x l u) = ((ch x).drop (clipN 0 l x.length)).take (clipN x.length u x.length - clipN 0 l x.length) := by
  have e : strSliceIndices l u 1 x.length = strSliceIndices (some (clipN 0 l x.length : Int)) (some (clipN x.length u x.length : Int)) 1 x.length := by
    unfold strSliceIndices clipN
    simp only [show ((1 : Int) > 0) = True from by simp, if_true]
    cases l <;> cases u <;> simp only [] <;> congr 1 <;> omega
  have hl : clipN 0 l x.length ≤ x.length := by unfold clipN; cases l <;> simp only [] <;> omega
  have hu : clipN x.length u x.length ≤ x.length := by unfold clipN; cases u <;> simp only [] <;> omega
  have key : (strSliceIndices l u 1 x.length).filterMap (x.cps[·]?) = ((ch x).drop (clipN 0 l x.length)).take (clipN x.length u x.length - clipN 0 l x.length) ∧ (strSliceIndices l u 1 x.length).length = clipN x.length u x.length - clipN 0 l x.length := by
    rw [e]
    generalize clipN 0 l x.length = a at hl ⊢
    generalize clipN x.length u x.length = b at hu ⊢
    by_cases hab : a ≤ b
    · exact ⟨StrLaws.sliced_plain x hab hu, by rw [StrLaws.strSliceIndices_plain hab hu]; simp⟩
    · have : b - a = 0 := by omega
      rw [this]
      have h1 : ¬ ((a : Int) < 0) := by omega
      have h2 : ¬ ((b : Int) < 0) := by omega
      have e1 : max (0 : Int) (min (a : Int) (x.length : Int)) = a := by omega
      have e2 : max (0 : Int) (min (b : Int) (x.length : Int)) = b := by omega
      have h3 : ¬ ((a : Int) < b) := by omega
      simp only [strSliceIndices, sliceRange, h1, h2, if_false, e1, e2, show ((1 : Int) > 0) = True from by simp, if_true, h3]
      simp
  unfold Txt.slice
  split
  · rename_i h
    simp only [Bool.and_eq_true, beq_iff_eq] at h
    rw [key.2] at h
    have h1 : clipN 0 l x.length = 0 := by omega
    have h2 : clipN x.length u x.length = x.length := by omega
    rw [h1, h2, List.drop_zero, List.take_of_length_le]
    rw [ch_len]; omega
  · show ((strSliceIndices l u 1 x.length).filterMap (x.cps[·]?)).toArray.toList = _
    rw [List.toList_toArray]; exact key.1
theorem rstrip_ch (x : PySem.Str) : ch (Txt.rstrip x) = ((ch x).reverse.dropWhile Unicode.isSpace).reverse := by
  unfold Txt.rstrip
  rw [PyProof.Rows.stripBy_eq]
  unfold stripLo stripHi
  simp only [Bool.false_eq_true, if_false, if_true, List.drop_zero]
  show ch (strSub x 0 _) = _
  rw [show ch (strSub x 0 (x.length - ((ch x).reverse.takeWhile Unicode.isSpace).length)) = ((ch x).drop 0).take (x.length - ((ch x).reverse.takeWhile Unicode.isSpace).length - 0) from StrLaws.strSub_toList _ _ _]
  rw [List.drop_zero, Nat.sub_zero]
  have h1 : (ch x).reverse.takeWhile Unicode.isSpace ++ (ch x).reverse.dropWhile Unicode.isSpace = (ch x).reverse := List.takeWhile_append_dropWhile
  have h2 : ch x = ((ch x).reverse.dropWhile Unicode.isSpace).reverse ++ ((ch x).reverse.takeWhile Unicode.isSpace).reverse := by
    rw [← List.reverse_append, h1, List.reverse_reverse]
  have h3 : x.length - ((ch x).reverse.takeWhile Unicode.isSpace).length = (((ch x).reverse.dropWhile Unicode.isSpace).reverse).length := by
    have := congrArg List.length h2
    rw [ch_len, List.length_append] at this
    rw [this, List.length_reverse, List.length_reverse]; omega
  rw [h3]
  generalize ((ch x).reverse.dropWhile Unicode.isSpace).reverse = a at h2 ⊢
  generalize ((ch x).reverse.takeWhile Unicode.isSpace).reverse = b at h2 ⊢
  rw [h2, List.take_left]
theorem contains_one (x : PySem.Str) (c : Nat) : (occurrences x ⟨#[c]⟩ 0 x.length 1).isEmpty = !decide (c ∈ ch x) := by
  have := StrLaws.found_one x c
  rw [← this, Bool.not_not]
theorem ends_ch (x y : PySem.Str) : Txt.endswith x y = (ch y).isSuffixOf (ch x) := by
  unfold Txt.endswith
  rw [StrLaws.subAt_eq]
  rw [Bool.eq_iff_iff]
  simp only [Bool.and_eq_true, decide_eq_true_eq, beq_iff_eq, List.isSuffixOf_iff_suffix]
  have hx := ch_len x
  have hy := ch_len y
  constructor
  · rintro ⟨h1, h2⟩
    have : ((ch x).drop (x.length - y.length)).length = y.length := by rw [List.length_drop]; omega
    rw [List.take_of_length_le (Nat.le_of_eq this)] at h2
    exact ⟨(ch x).take (x.length - y.length), by show _ ++ y.cps.toList = _; rw [← h2]; exact List.take_append_drop _ _⟩
  · rintro ⟨t, ht⟩
    have hl := congrArg List.length ht
    rw [List.length_append] at hl
    refine ⟨by omega, ?_⟩
    have e : x.length - y.length = t.length := by omega
    rw [e]
    show ((ch x).drop t.length).take y.length = ch y
    rw [← ht, List.drop_left, ← hy, List.take_length]
end Mine
-- text Q1
namespace Mine
open PySem.Calls PySem.Spec
set_option maxRecDepth 100000
set_option maxHeartbeats 8000000
section
variable {w : World} {p : Program} {loose : List Str} {mean : ExcName → Option Value} {mg mb : Str → Option Value}
theorem slice13 {c a b : Nat} : Txt.slice ⟨#[c, a, b]⟩ (some 1) (some 3) = ⟨#[a, b]⟩ := rfl
theorem call_hexS {prog : Program} {w : World} {A : Around} {E : Value → Shared → Prop} {s : Shared} {a b c : Nat} {u t : Tok} {Q : Value → Shared → Prop} (ha : isHex a = true) (hb : isHex b = true) (h : Q (.int ((16 * hexv a + hexv b : Nat) : Int) s.toks) { s with toks := s.toks + 1 }) :
    wpAny (model prog w) A (call (.type "int") [.str (Txt.slice ⟨#[c, a, b]⟩ (some 1) (some 3)) u, .int 16 t]) Q E s := by
  rw [slice13]; exact call_hex ha hb h
theorem hexv_lt {a : Nat} (h : isHex a = true) : hexv a < 16 := by
  simp only [isHex, Bool.or_eq_true, Bool.and_eq_true, decide_eq_true_eq] at h
  unfold hexv; split <;> (try split) <;> omega
theorem call_chrN {prog : Program} {w : World} {A : Around} {E : Value → Shared → Prop} {s : Shared} {n : Nat} {t : Tok} {Q : Value → Shared → Prop} (h1 : n ≤ 1114111) (h : Q (.str ⟨#[n]⟩ s.toks) { s with toks := s.toks + 1 }) :
    wpAny (model prog w) A (call (.builtin "chr") [.int (n : Int) t]) Q E s := chr_of_range (by omega) (by omega) h
section
local macro_rules | `(tactic| walk_at "call type:int") => `(tactic| (refine call_hexS (by assumption) (by assumption) ?_; try dsimp only))
local macro_rules | `(tactic| walk_at "call builtin:chr") => `(tactic| (refine call_chrN (by omega) ?_; try dsimp only))
theorem unquote_cl (a b : Nat) (t : Tok) :
   Cl PySem.Challenge.rw_ny0161_01.row.prog w (Mine.hdK w.params) p loose mean mg mb 37 0 (fun _ => isHex a = true ∧ isHex b = true) [.str ⟨#[61, a, b]⟩ t] (fun v nw => nw = [] ∧ ∃ t', v = .str ⟨#[16 * hexv a + hexv b]⟩ t') := by
  k_fill
  refine Cl.intro (binds := [(Str.ofString "s", .str ⟨#[61, a, b]⟩ t)]) (by k_is) (by k_is) (fun s _ => BindsTo.of_eq rfl) (locs rfl) rfl rfl rfl (by decide) ?_
  intro dp un gd outer A₀ base g L' s B F N X T hpre hdp hun
  obtain ⟨ha, hb⟩ := hpre
  have hsz : (⟨#[61, a, b]⟩ : Str).length ≤ 10 := Nat.le_of_ble_eq_true rfl
  have h1 := hexv_lt ha
  have h2 := hexv_lt hb
  try k_fold
  k_steps
  refine ⟨_, _, _, _, rfl, ⟨rfl, _, rfl⟩, by assumption, by assumption⟩
end
def hexDig (d : Nat) : Nat := if d < 10 then 48 + d else 55 + d
def qmap : List Str := (List.range 256).map fun c => (⟨#[61, hexDig (c / 16), hexDig (c % 16)]⟩ : Str)
theorem qmap_at {l : List Str} {c : Nat} (h : l = qmap) (hc : c < 256) : l.getD (c : Int).toNat Str.empty = ⟨#[61, hexDig (c / 16), hexDig (c % 16)]⟩ := by
  subst h
  simp [qmap, hc]
theorem quote_cl (c : Nat) (t : Tok) :
   Cl PySem.Challenge.rw_ny0161_01.row.prog w (Mine.hdK w.params) p loose mean mg mb 44 0 (fun _ => c < 256) [.str ⟨#[c]⟩ t] (fun v nw => nw = [] ∧ ∃ t', v = .str ⟨#[61, hexDig (c / 16), hexDig (c % 16)]⟩ t') := by
  k_fill
  refine Cl.intro (binds := [(Str.ofString "c", .str ⟨#[c]⟩ t)]) (by k_is) (by k_is) (fun s _ => BindsTo.of_eq rfl) (locs rfl) rfl rfl rfl (by decide) ?_
  intro dp un gd outer A₀ base g L' s B F N X T hpre hdp hun
  try k_fold
  k_steps
  refine ⟨_, _, _, _, rfl, ⟨rfl, _, congrArg (fun x => Value.str x _) ?_⟩, by assumption, by assumption⟩
  exact qmap_at (by decide +kernel) hpre
end
end Mine
-- text D0
namespace Mine
/-- what decode makes of one stripped line -/
def decL (e : List Nat) : List Nat → List Nat
  | [] => []
  | [c] => if c = 61 then [] else c :: e
  | [c, a] => c :: decL e [a]
  | c :: a :: b :: r => if c = 61 ∧ isHex a = true ∧ isHex b = true then (16 * hexv a + hexv b) :: (if r = [] then e else decL e r) else c :: decL e (a :: b :: r)
theorem decL_plain {e : List Nat} {c : Nat} {r : List Nat} (h : c ≠ 61) : decL e (c :: r) = c :: (if r = [] then e else decL e r) := by
  match r with
  | [] => simp [decL, h]
  | [a] => simp [decL]
  | a :: b :: r => rw [decL, if_neg (fun q => h q.1)]; simp
theorem decL_soft {e : List Nat} : decL e [61] = [] := by simp [decL]
theorem decL_hex {e : List Nat} {a b : Nat} {r : List Nat} (ha : isHex a = true) (hb : isHex b = true) : decL e (61 :: a :: b :: r) = (16 * hexv a + hexv b) :: (if r = [] then e else decL e r) := by
  rw [decL, if_pos ⟨rfl, ha, hb⟩]
theorem decL_no {e : List Nat} {r : List Nat} (hr : r ≠ []) (h : ∀ a b r', r = a :: b :: r' → (isHex a && isHex b) = false) : decL e (61 :: r) = 61 :: decL e r := by
  match r, hr, h with
  | [a], _, _ => simp [decL]
  | a :: b :: r', _, h =>
    rw [decL, if_neg]
    rintro ⟨_, h1, h2⟩
    have := h a b r' rfl
    rw [h1, h2] at this
    cases this
def decLine (e : List Nat) (l : Str) : List Nat := if ch (Txt.rstrip l) = [] then e else decL e (ch (Txt.rstrip l))
def decPre (e : List Nat) (ls : List Str) : List Nat := (ls.map (decLine e)).flatten
def decF (x : Str) (e : List Nat) : List Nat :=
  if x.length = 0 then ch x else
  if ((ch x).getD (x.length - 1) 0 ≠ 13 ∧ (ch x).getD (x.length - 1) 0 ≠ 10) ∧ e.isSuffixOf (decPre e (Txt.lines x)) = true then
    (if e = [] then [] else (decPre e (Txt.lines x)).take ((decPre e (Txt.lines x)).length - e.length))
  else decPre e (Txt.lines x)
theorem drop_at {l : List Nat} {k : Nat} (h : k < l.length) : l.drop k = l.getD k 0 :: l.drop (k + 1) := by
  rw [List.drop_eq_getElem_cons h]; simp [List.getD, h]
section
variable {r y d1 : Str} {k : Nat} {D : List Nat}
theorem item_eq61 {x : Str} {i : Int} (h0 : 0 ≤ i) (h1 : i < x.length) : (Txt.item x i != Str.ofString "=") = decide ((ch x).getD i.toNat 0 ≠ 61) := by
  rw [item_ch h0 h1]
  have e : (Str.ofString "=" : Str) = ⟨#[61]⟩ := by decide +kernel
  rw [e, Bool.eq_iff_iff, bne_iff_ne, decide_eq_true_eq]
  constructor
  · intro h hh; exact h (by rw [hh])
  · intro h hh; exact h (by have := congrArg (fun s : Str => ch s) hh; simpa [ch] using this)
theorem hex_in {x : Str} {i : Int} (h0 : 0 ≤ i) (h1 : i < x.length) :
    (PySem.Builtin.Str.occurrences (Str.ofString "0123456789abcdefABCDEF") (Txt.item x i) 0 (Str.ofString "0123456789abcdefABCDEF").length 1).isEmpty = !isHex ((ch x).getD i.toNat 0) := by
  rw [item_ch h0 h1, contains_one]
  generalize (ch x).getD i.toNat 0 = c
  have e : ch (Str.ofString "0123456789abcdefABCDEF") = hexList := by decide +kernel
  rw [e]
  congr 1
  rw [Bool.eq_iff_iff, decide_eq_true_eq]
  constructor
  · intro h; exact (by decide : ∀ c ∈ hexList, isHex c = true) c h
  · exact hex_mem
theorem way_plain_end (hd : ch d1 ++ decL (ch y) ((ch r).drop k) = D) (hlt : (k : Int) < r.length) (hne : (Txt.item r k != Str.ofString "=") = true) (hn : (k : Int) + 1 = r.length) :
    ∃ k' : Nat, (k : Int) + 1 = k' ∧ k' ≤ (ch r).length ∧ ch (d1 ++ Txt.item r k ++ y) ++ decL (ch y) ((ch r).drop k') = D := by
  have hl := ch_len r
  rw [item_eq61 (by omega) hlt] at hne
  refine ⟨k + 1, by omega, by omega, ?_⟩
  rw [drop_at (by omega : k < (ch r).length)] at hd
  have e : (ch r).drop (k + 1) = [] := List.drop_eq_nil_of_le (by omega)
  rw [decL_plain (by simpa using hne), e] at hd
  rw [e, ch_app, ch_app, item_ch (by omega) hlt, ch_one, ← hd]
  simp [decL]
theorem way_plain (hd : ch d1 ++ decL (ch y) ((ch r).drop k) = D) (hlt : (k : Int) < r.length) (hne : (Txt.item r k != Str.ofString "=") = true) (hn : ¬ (k : Int) + 1 = r.length) :
    ∃ k' : Nat, (k : Int) + 1 = k' ∧ k' ≤ (ch r).length ∧ ch (d1 ++ Txt.item r k) ++ decL (ch y) ((ch r).drop k') = D := by
  have hl := ch_len r
  rw [item_eq61 (by omega) hlt] at hne
  refine ⟨k + 1, by omega, by omega, ?_⟩
  rw [drop_at (by omega : k < (ch r).length)] at hd
  have e : (ch r).drop (k + 1) ≠ [] := by intro h; have := List.drop_eq_nil_iff.mp h; omega
  rw [decL_plain (by simpa using hne), if_neg e] at hd
  rw [ch_app, item_ch (by omega) hlt, ch_one, ← hd]
  simp
theorem way_soft (hd : ch d1 ++ decL (ch y) ((ch r).drop k) = D) (hlt : (k : Int) < r.length) (hne : (Txt.item r k != Str.ofString "=") = false) (hn : (k : Int) + 1 = r.length) :
    ∃ k' : Nat, (k : Int) + 1 = k' ∧ k' ≤ (ch r).length ∧ ch d1 ++ decL (ch y) ((ch r).drop k') = D := by
  have hl := ch_len r
  rw [item_eq61 (by omega) hlt] at hne
  refine ⟨k + 1, by omega, by omega, ?_⟩
  rw [drop_at (by omega : k < (ch r).length)] at hd
  have e : (ch r).drop (k + 1) = [] := List.drop_eq_nil_of_le (by omega)
  have h61 : (ch r).getD k 0 = 61 := by simpa using hne
  rw [e, h61, decL_soft] at hd
  rw [e, ← hd]
  simp [decL]
theorem way_no (hd : ch d1 ++ decL (ch y) ((ch r).drop k) = D) (hlt : (k : Int) < r.length) (hne : (Txt.item r k != Str.ofString "=") = false) (hn : ¬ (k : Int) + 1 = r.length)
    (h : (k : Int) + 2 < r.length → (isHex ((ch r).getD (k + 1) 0) && isHex ((ch r).getD (k + 2) 0)) = false) :
    ∃ k' : Nat, (k : Int) + 1 = k' ∧ k' ≤ (ch r).length ∧ ch (d1 ++ Txt.item r k) ++ decL (ch y) ((ch r).drop k') = D := by
  have hl := ch_len r
  rw [item_eq61 (by omega) hlt] at hne
  refine ⟨k + 1, by omega, by omega, ?_⟩
  rw [drop_at (by omega : k < (ch r).length)] at hd
  have e : (ch r).drop (k + 1) ≠ [] := by intro h; have := List.drop_eq_nil_iff.mp h; omega
  have h61 : (ch r).getD k 0 = 61 := by simpa using hne
  rw [h61, decL_no e] at hd
  · rw [ch_app, item_ch (by omega) hlt, ch_one, ← hd]
    have : (ch r).getD (k : Int).toNat 0 = 61 := h61
    rw [this]; simp
  · intro a b r' hr
    have h1 : k + 2 < (ch r).length := by
      have := congrArg List.length hr
      simp only [List.length_drop, List.length_cons] at this
      omega
    rw [drop_at (by omega : k + 1 < (ch r).length), drop_at (by omega : k + 1 + 1 < (ch r).length)] at hr
    injection hr with q1 q2
    injection q2 with q2 q3
    rw [← q1, ← q2]
    exact h (by omega)
theorem way_no1 (hd : ch d1 ++ decL (ch y) ((ch r).drop k) = D) (hlt : (k : Int) < r.length) (hne : (Txt.item r k != Str.ofString "=") = false) (hn : ¬ (k : Int) + 1 = r.length) (h2 : (k : Int) + 2 < r.length)
    (h : (PySem.Builtin.Str.occurrences (Str.ofString "0123456789abcdefABCDEF") (Txt.item r ((k : Int) + 2)) 0 (Str.ofString "0123456789abcdefABCDEF").length 1).isEmpty = true) :
    ∃ k' : Nat, (k : Int) + 1 = k' ∧ k' ≤ (ch r).length ∧ ch (d1 ++ Txt.item r k) ++ decL (ch y) ((ch r).drop k') = D :=
  way_no hd hlt hne hn fun _ => by
    rw [hex_in (by omega) h2] at h
    have e : ((k : Int) + 2).toNat = k + 2 := by omega
    rw [e] at h
    simp at h
    simp [h]
theorem way_no2 (hd : ch d1 ++ decL (ch y) ((ch r).drop k) = D) (hlt : (k : Int) < r.length) (hne : (Txt.item r k != Str.ofString "=") = false) (hn : ¬ (k : Int) + 1 = r.length) (h2 : (k : Int) + 2 < r.length)
    (h : (PySem.Builtin.Str.occurrences (Str.ofString "0123456789abcdefABCDEF") (Txt.item r ((k : Int) + 1)) 0 (Str.ofString "0123456789abcdefABCDEF").length 1).isEmpty = true) :
    ∃ k' : Nat, (k : Int) + 1 = k' ∧ k' ≤ (ch r).length ∧ ch (d1 ++ Txt.item r k) ++ decL (ch y) ((ch r).drop k') = D :=
  way_no hd hlt hne hn fun _ => by
    rw [hex_in (by omega) (by omega)] at h
    have e : ((k : Int) + 1).toNat = k + 1 := by omega
    rw [e] at h
    simp at h
    simp [h]
theorem way_no3 (hd : ch d1 ++ decL (ch y) ((ch r).drop k) = D) (hlt : (k : Int) < r.length) (hne : (Txt.item r k != Str.ofString "=") = false) (hn : ¬ (k : Int) + 1 = r.length) (h2 : ¬ (k : Int) + 2 < r.length) :
    ∃ k' : Nat, (k : Int) + 1 = k' ∧ k' ≤ (ch r).length ∧ ch (d1 ++ Txt.item r k) ++ decL (ch y) ((ch r).drop k') = D :=
  way_no hd hlt hne hn fun h => absurd h h2
theorem way_hexs (h2 : (k : Int) + 2 < r.length) (hne : (Txt.item r k != Str.ofString "=") = false)
    (ha : (PySem.Builtin.Str.occurrences (Str.ofString "0123456789abcdefABCDEF") (Txt.item r ((k : Int) + 1)) 0 (Str.ofString "0123456789abcdefABCDEF").length 1).isEmpty = false)
    (hb : (PySem.Builtin.Str.occurrences (Str.ofString "0123456789abcdefABCDEF") (Txt.item r ((k : Int) + 2)) 0 (Str.ofString "0123456789abcdefABCDEF").length 1).isEmpty = false) :
    (ch r).getD k 0 = 61 ∧ isHex ((ch r).getD (k + 1) 0) = true ∧ isHex ((ch r).getD (k + 2) 0) = true := by
  rw [hex_in (by omega) (by omega)] at ha hb
  rw [item_eq61 (by omega) (by omega)] at hne
  have e1 : ((k : Int) + 1).toNat = k + 1 := by omega
  have e2 : ((k : Int) + 2).toNat = k + 2 := by omega
  rw [e1] at ha
  rw [e2] at hb
  refine ⟨by simpa using hne, ?_, ?_⟩
  · revert ha; cases isHex ((ch r).getD (k + 1) 0) <;> simp
  · revert hb; cases isHex ((ch r).getD (k + 2) 0) <;> simp
theorem slice3 (hlt : (k : Int) + 2 < r.length) : Txt.slice r (some (k : Int)) (some ((k : Int) + 3)) = ⟨#[(ch r).getD k 0, (ch r).getD (k + 1) 0, (ch r).getD (k + 2) 0]⟩ := by
  apply ext_ch
  have hl := ch_len r
  rw [slice_gen]
  have e1 : clipN 0 (some (k : Int)) r.length = k := by unfold clipN; simp only []; omega
  have e2 : clipN r.length (some ((k : Int) + 3)) r.length = k + 3 := by unfold clipN; simp only []; omega
  rw [e1, e2, drop_at (by omega : k < (ch r).length), drop_at (by omega : k + 1 < (ch r).length), drop_at (by omega : k + 1 + 1 < (ch r).length)]
  have e3 : k + 3 - k = 3 := by omega
  rw [e3]
  simp [ch]
theorem way_hex_end (hd : ch d1 ++ decL (ch y) ((ch r).drop k) = D) (h61 : (ch r).getD k 0 = 61) (ha : isHex ((ch r).getD (k + 1) 0) = true) (hb : isHex ((ch r).getD (k + 2) 0) = true) (hn : (k : Int) + 3 = r.length) :
    ∃ k' : Nat, (k : Int) + 3 = k' ∧ k' ≤ (ch r).length ∧ ch (d1 ++ ⟨#[16 * hexv ((ch r).getD (k + 1) 0) + hexv ((ch r).getD (k + 2) 0)]⟩ ++ y) ++ decL (ch y) ((ch r).drop k') = D := by
  have hl := ch_len r
  refine ⟨k + 3, by omega, by omega, ?_⟩
  rw [drop_at (by omega : k < (ch r).length), drop_at (by omega : k + 1 < (ch r).length), drop_at (by omega : k + 1 + 1 < (ch r).length), h61, decL_hex ha hb] at hd
  have e : (ch r).drop (k + 1 + 1 + 1) = [] := List.drop_eq_nil_of_le (by omega)
  rw [if_pos e] at hd
  have e : (ch r).drop (k + 3) = [] := List.drop_eq_nil_of_le (by omega)
  rw [e, ch_app, ch_app, ch_one, ← hd]
  simp [decL]
theorem way_hex (hd : ch d1 ++ decL (ch y) ((ch r).drop k) = D) (hlt : (k : Int) + 2 < r.length) (h61 : (ch r).getD k 0 = 61) (ha : isHex ((ch r).getD (k + 1) 0) = true) (hb : isHex ((ch r).getD (k + 2) 0) = true) (hn : ¬ (k : Int) + 3 = r.length) :
    ∃ k' : Nat, (k : Int) + 3 = k' ∧ k' ≤ (ch r).length ∧ ch (d1 ++ ⟨#[16 * hexv ((ch r).getD (k + 1) 0) + hexv ((ch r).getD (k + 2) 0)]⟩) ++ decL (ch y) ((ch r).drop k') = D := by
  have hl := ch_len r
  refine ⟨k + 3, by omega, by omega, ?_⟩
  rw [drop_at (by omega : k < (ch r).length), drop_at (by omega : k + 1 < (ch r).length), drop_at (by omega : k + 1 + 1 < (ch r).length), h61, decL_hex ha hb] at hd
  have e : (ch r).drop (k + 1 + 1 + 1) ≠ [] := by intro h; have := List.drop_eq_nil_iff.mp h; omega
  rw [if_neg e] at hd
  rw [ch_app, ch_one, ← hd]
  simp
end
theorem crlf_in {x : Str} (h : x.length ≠ 0) : (PySem.Builtin.Str.occurrences (Str.ofString "\r\n") (Txt.item x (-1)) 0 (Str.ofString "\r\n").length 1).isEmpty = decide ((ch x).getD (x.length - 1) 0 ≠ 13 ∧ (ch x).getD (x.length - 1) 0 ≠ 10) := by
  rw [item_last h, contains_one]
  have e : ch (Str.ofString "\r\n") = [13, 10] := by decide +kernel
  rw [e]
  generalize (ch x).getD (x.length - 1) 0 = c
  by_cases h1 : c = 13 <;> by_cases h2 : c = 10 <;> simp [h1, h2]
section
variable {x y c : Str}
theorem decF_cut (h0 : x.length ≠ 0) (hc : ch c = decPre (ch y) (Txt.lines x)) (hin : (PySem.Builtin.Str.occurrences (Str.ofString "\r\n") (Txt.item x (-1)) 0 (Str.ofString "\r\n").length 1).isEmpty = true) (he : Txt.endswith c y = true) :
    ch (Txt.slice c none (some (-(y.length : Int)))) = decF x (ch y) := by
  rw [crlf_in h0, decide_eq_true_eq] at hin
  rw [ends_ch, hc] at he
  unfold decF
  rw [if_neg h0, if_pos ⟨hin, he⟩, ← hc, slice_gen]
  have e1 : clipN 0 none c.length = 0 := rfl
  have hs := (List.isSuffixOf_iff_suffix.mp he).length_le
  rw [← hc, ch_len, ch_len] at hs
  have hl := ch_len c
  have hly := ch_len y
  rw [e1, List.drop_zero, Nat.sub_zero]
  split
  · rename_i h
    have : y.length = 0 := by rw [← hly, h]; rfl
    have e2 : clipN c.length (some (-(y.length : Int))) c.length = 0 := by unfold clipN; simp only []; omega
    rw [e2, List.take_zero]
  · rename_i h
    have : y.length ≠ 0 := by intro q; rw [← hly] at q; exact h (List.eq_nil_of_length_eq_zero q)
    have e2 : clipN c.length (some (-(y.length : Int))) c.length = c.length - y.length := by unfold clipN; simp only []; omega
    rw [e2, ch_len, ch_len]
theorem decF_stay (h0 : x.length ≠ 0) (hc : ch c = decPre (ch y) (Txt.lines x)) (he : Txt.endswith c y = false) : ch c = decF x (ch y) := by
  rw [ends_ch, hc] at he
  unfold decF
  rw [if_neg h0, if_neg (fun q => by rw [he] at q; exact Bool.noConfusion q.2), hc]
theorem decF_stay' (h0 : x.length ≠ 0) (hc : ch c = decPre (ch y) (Txt.lines x)) (hin : (PySem.Builtin.Str.occurrences (Str.ofString "\r\n") (Txt.item x (-1)) 0 (Str.ofString "\r\n").length 1).isEmpty = false) : ch c = decF x (ch y) := by
  rw [crlf_in h0, decide_eq_false_iff_not] at hin
  unfold decF
  rw [if_neg h0, if_neg (fun q => hin q.1), hc]
end
end Mine
-- text D1
namespace Mine
open PySem.Calls PySem.Spec
set_option maxRecDepth 100000
set_option maxHeartbeats 8000000
theorem decPre_snoc {e : List Nat} {ls : List Str} {i : Nat} {a : Str} (h : ls[i]? = some a) : decPre e (ls.take (i + 1)) = decPre e (ls.take i) ++ decLine e a := by
  unfold decPre
  rw [List.take_add_one, h]
  simp
theorem decPre_le {e : List Nat} {ls : List Str} (i : Nat) : (decPre e (ls.take i)).length ≤ (decPre e ls).length := by
  conv => rhs; rw [← List.take_append_drop i ls]
  unfold decPre
  rw [List.map_append, List.flatten_append, List.length_append]
  omega
section
variable {w : World} {p : Program} {loose : List Str} {mean : ExcName → Option Value} {mg mb : Str → Option Value}
section
local macro_rules | `(tactic| walk_at $k:str) => do
  if ["exec While Compare cons nil", "pyIter ref", "KswEnd", "call ref", "Turn"].contains k.getString then `(tactic| refine Stop.out ?_) else Lean.Macro.throwUnsupported
local macro_rules | `(tactic| walk_at "mine ksw") => `(tactic| (
  (refine' ksw_end (_, _, _, _) (by assumption) (by assumption) (fun _ hp => hp) trivial ?hk ?hr ?hp ?hm)
  (case hk => (refine List.forall_mem_cons.mpr ⟨?_, List.forall_mem_cons.mpr ⟨?_, List.forall_mem_nil _⟩⟩ <;> (dsimp only; exact rfl)))
  (case hr => ksw_same)))
local macro_rules | `(tactic| walk_at "mine turn") => `(tactic| (
  (refine' turn_next (_, _) (by assumption) (by assumption) (fun _ hp => List.mem_append.mpr (.inl hp)) (fun _ hp => List.mem_append.mpr (.inr hp)) (by assumption) ?hk ?hr ?hp)
  (case hk => (refine List.forall_mem_cons.mpr ⟨?_, List.forall_mem_nil _⟩; dsimp only; exact rfl))))
local macro_rules | `(tactic| walk_at "mine same") => `(tactic| (intro z h1 h2 h3; (simp only [List.forall_mem_cons, List.not_mem_nil, false_implies, implies_true, and_true, ne_eq] at h2); (simp only [List.contains_cons, List.contains_nil, Bool.or_false, Bool.or_eq_false_iff, beq_eq_false_iff_ne, ne_eq] at h3); simp [h1, h2, h3]))
theorem decode_cl (x y : Str) (t u : Tok) :
   Cl PySem.Challenge.rw_ny0161_01.row.prog w (Mine.hdK w.params) p loose mean mg mb 65 1 (fun _ => x.length ≤ 1000000 ∧ y.length ≤ 10 ∧ (decPre (ch y) (Txt.lines x)).length ≤ 1000000) [.str x t, .str y u] (fun v nw => nw = [] ∧ ∃ z t', v = .str z t' ∧ ch z = decF x (ch y)) := by
  k_fill
  refine Cl.intro (binds := [(Str.ofString "encoded", .str x t), (Str.ofString "eol", .str y u)]) (by k_is) (by k_is) (fun s X => binds_K X rfl (by k_is) rfl rfl rfl) (locs rfl) rfl rfl rfl (by decide) ?_
  intro dp un gd outer A₀ base g L' s B F N X T hpre hdp hun
  obtain ⟨hx, hy, hb⟩ := hpre
  try k_fold
  k_steps
  · rename_i hx0 _ _ l _ _ hl hsa hshort _ _ _
    unfold Stop
    rw [hl] at hshort
    refine' for_led (fun _ => _) (fun c : Str × Tok => [(Str.ofString "decoded", Value.str c.1 c.2)]) ["decoded", "i", "n", "c"] (fun i c => ch c.1 = decPre (ch y) ((Txt.lines x).take i)) (Str.ofString "", ?tk) rfl (fun _ => List.Mem.head _) (by assumption) (by assumption) ?hk ?hp ?turn ?done
    case hk =>
      intro q hq
      rw [List.mem_singleton.mp hq]; exact rfl
    case hp => rfl
    case turn =>
      intro i v c u' h tk own hv hoff hP F' N'
      obtain ⟨a, ta, rfl, ha⟩ := strs_at hv
      dsimp only [kstB] at F'
      rw [hl] at ha
      have hal : a.length ≤ 1000000 := Nat.le_trans (hshort a (List.mem_of_getElem? ha)) hx
      have hPl := decPre_le (e := ch y) (ls := Txt.lines x) (i + 1)
      rw [decPre_snoc ha, List.length_append, ← hP, ch_len] at hPl
      have hdl : c.1.length ≤ 1000000 := by omega
      k_steps
      · unfold Stop
        have hne : ((Txt.rstrip a).length : Int) ≠ 0 := by with_reducible assumption
        have hne' : ch (Txt.rstrip a) ≠ [] := by
          intro h0
          have := ch_len (Txt.rstrip a)
          rw [h0] at this
          exact hne (by rw [← this]; rfl)
        have hline : decLine (ch y) a = decL (ch y) (ch (Txt.rstrip a)) := if_neg hne'
        rw [hline] at hPl
        refine' ksw_while (fun _ => _) (fun d : Int × Tok × Str × Tok => [(Str.ofString "i", Value.int d.1 d.2.1), (Str.ofString "decoded", Value.str d.2.2.1 d.2.2.2)]) (fun _ => True) ["i", "decoded", "c"]
          (fun d => ∃ k : Nat, d.1 = k ∧ k ≤ (ch (Txt.rstrip a)).length ∧ ch d.2.2.1 ++ decL (ch y) ((ch (Txt.rstrip a)).drop k) = ch c.1 ++ decL (ch y) (ch (Txt.rstrip a)))
          (fun d => (ch (Txt.rstrip a)).length - d.1.toNat) (0, ?t1, c.1, ?t2) (by assumption) (by assumption) trivial ?hk ?hp ?turn
        case hk =>
          intro q hq
          rcases List.mem_cons.mp hq with rfl | hq
          · exact rfl
          · rw [List.mem_singleton.mp hq]; exact rfl
        case hp => exact ⟨0, rfl, Nat.zero_le _, rfl⟩
        case turn =>
          intro d u2 h2 tk2 _ hd F2 N2
          obtain ⟨i1, i2, d1, d2⟩ := d
          dsimp only [kstB] at hd F2
          obtain ⟨k, rfl, hk, hd⟩ := hd
          have hkl := ch_len (Txt.rstrip a)
          have hd1 : d1.length ≤ 1000000 := by
            have := congrArg List.length hd
            rw [List.length_append, List.length_append, ch_len, ch_len] at this
            omega
          have hk2 : k ≤ (Txt.rstrip a).length := by omega
          have hr1 : (Txt.rstrip a).length ≤ 1000000 := by omega
          k_steps
          all_goals unfold Stop
          · walk_at "mine ksw"
            case hp => exact way_plain_end hd (by with_reducible assumption) (by with_reducible assumption) (by with_reducible assumption)
            case hm => (dsimp only; omega)
          · walk_at "mine ksw"
            case hp => exact way_plain hd (by with_reducible assumption) (by with_reducible assumption) (by with_reducible assumption)
            case hm => (dsimp only; omega)
          · walk_at "mine ksw"
            case hp => exact way_soft hd (by with_reducible assumption) (by with_reducible assumption) (by with_reducible assumption)
            case hm => (dsimp only; omega)
          · exfalso; omega
          · walk_at "mine ksw"
            case hp => exact way_no2 hd (by with_reducible assumption) (by with_reducible assumption) (by with_reducible assumption) (by with_reducible assumption) (by with_reducible assumption)
            case hm => (dsimp only; omega)
          · exfalso; omega
          · walk_at "mine ksw"
            case hp => exact way_no1 hd (by with_reducible assumption) (by with_reducible assumption) (by with_reducible assumption) (by with_reducible assumption) (by with_reducible assumption)
            case hm => (dsimp only; omega)
          · have h3 : (k : Int) + 2 < (Txt.rstrip a).length := by assumption
            obtain ⟨q1, q2, q3⟩ := way_hexs h3 (by with_reducible assumption) (by with_reducible assumption) (by with_reducible assumption)
            rw [slice3 h3, q1]
            refine (unquote_cl _ _ _).use B (by k_asm) X (by k_asm) T rfl ⟨q2, q3⟩ (by omega) (by omega) ?_
            rintro v nw h9 tk9 ⟨rfl, t9, rfl⟩ F9 N9 _ _
            rw [List.nil_append] at N9
            have hone : (⟨#[16 * hexv ((ch (Txt.rstrip a)).getD (k + 1) 0) + hexv ((ch (Txt.rstrip a)).getD (k + 2) 0)]⟩ : Str).length ≤ 1 := Nat.le_refl _
            dsimp only
            k_steps
            all_goals unfold Stop
            · walk_at "mine ksw"
              case hp => exact way_hex_end hd q1 q2 q3 (by with_reducible assumption)
              case hm => (dsimp only; omega)
            · walk_at "mine ksw"
              case hp => exact way_hex hd h3 q1 q2 q3 (by with_reducible assumption)
              case hm => (dsimp only; omega)
          · exfalso; omega
          · walk_at "mine ksw"
            case hp => exact way_no3 hd (by with_reducible assumption) (by with_reducible assumption) (by with_reducible assumption) (by assumption)
            case hm => (dsimp only; omega)
          · walk_at "mine turn"
            case hr => walk_at "mine same"
            case hp =>
              have e : (ch (Txt.rstrip a)).drop k = [] := List.drop_eq_nil_of_le (by omega)
              rw [e] at hd
              rw [decPre_snoc ha, hline, ← hP, ← hd]
              simp [decL]
      · dsimp only
        refine' turn_cont (_, _) (by assumption) (by assumption) (fun _ hp => List.mem_append.mpr (.inl hp)) (fun _ hp => List.mem_append.mpr (.inr hp)) hoff ?hk ?hr ?hp
        case hk => (refine List.forall_mem_cons.mpr ⟨?_, List.forall_mem_nil _⟩; dsimp only; exact rfl)
        case hr => walk_at "mine same"
        case hp =>
          have h0 : ((Txt.rstrip a).length : Int) = 0 := by assumption
          have h1 : ch (Txt.rstrip a) = [] := List.eq_nil_of_length_eq_zero (by rw [ch_len]; omega)
          have e : decLine (ch y) a = ch y := if_pos h1
          rw [decPre_snoc ha, e, ← hP]
          exact ch_app _ _
    case done => 
      intro c u2 h2 tk2 hP F2 N2
      dsimp only [kstB] at F2
      have hlen : (strValues l).length = (Txt.lines x).length := by rw [← hl]; simp [strValues]
      rw [hlen, List.take_length] at hP
      have hcl : c.1.length ≤ 1000000 := by rw [← ch_len, hP]; exact hb
      have hx1 : x.length ≠ 0 := by omega
      k_steps
      · refine ⟨_, _, _, _, rfl, ⟨rfl, _, _, rfl, ?_⟩, by k_asm, News.nil⟩
        exact decF_cut hx1 hP (by with_reducible assumption) (by with_reducible assumption)
      · refine ⟨_, _, _, _, rfl, ⟨rfl, _, _, rfl, ?_⟩, by k_asm, News.nil⟩
        exact decF_stay hx1 hP (by with_reducible assumption)
      · refine ⟨_, _, _, _, rfl, ⟨rfl, _, _, rfl, ?_⟩, by k_asm, News.nil⟩
        exact decF_stay' hx1 hP (by with_reducible assumption)
  · refine ⟨_, _, _, _, rfl, ⟨rfl, _, _, rfl, ?_⟩, by k_asm, News.nil⟩
    have h0 : (x.length : Int) = 0 := by assumption
    exact (if_pos (by omega)).symm
end
end
end Mine
-- text TR
namespace Mine
open PySem.Calls PySem.Builtin
theorem wp_tableLookup {prog : Program} {w : World} {A : Around} {E : Value → Shared → Prop} {s : Shared} {l : Addr} {items : Array Value} {c : Nat} {x : PySem.Str} {t : Tok} {Q : Str.Mapped → Shared → Prop}
    (hl : s.heap.IsList l items) (hc : c < 256) (hx : items[c]? = some (.str x t)) (h : Q (.text x) { s with toks := s.toks + 1 }) : wpAny (model prog w) A (Str.tableLookup (.ref l) c) Q E s := by
  unfold Str.tableLookup
  refine wpAny_bind (wpAny_attempt (wpAny_bind (wpAny_mkInt ?_)))
  refine wpAny_getItem_list hl (by omega) (by omega) (by simpa using hx) ?_
  dsimp only
  refine wpAny_bind ?_
  show wpAny _ _ (do notAStandIn (.str x t); pure none) _ _ _
  refine wpAny_bind (wpAny_pure ?_)
  refine wpAny_pure ?_
  dsimp only
  refine wpAny_bind ?_
  show wpAny _ _ (pure (some x)) _ _ _
  refine wpAny_pure ?_
  exact wpAny_pure h
theorem foldl_cps (ps : List PySem.Str) : ∀ a : Array Nat, (ps.foldl (fun acc p => acc ++ p.cps) a).toList = a.toList ++ (ps.map ch).flatten := by
  induction ps with
  | nil => intro a; simp
  | cons p r ih => intro a; rw [List.foldl_cons, ih]; simp [ch]
theorem lookup_mem {c : Nat} {a : Option Nat} : ∀ {l : List (Nat × Option Nat)}, l.lookup c = some a → (c, a) ∈ l
  | (d, b) :: r, h => by
    rw [List.lookup_cons] at h
    by_cases q : c = d
    · subst q
      have : some b = some a := by simpa using h
      injection this with e
      rw [e]
      exact .head _
    · have q' : (c == d) = false := by simpa using q
      rw [q'] at h
      exact .tail _ (lookup_mem h)
theorem tr_meets {x : PySem.Str} {t : Tok} {l : Addr} {items : Array Value} (enc : Nat → List Nat) (hx0 : x.length ≠ 0) (hx : ∀ c ∈ ch x, c < 256) (hsz : ((ch x).flatMap enc).length ≤ 1000000)
    (ht : ∀ c, c < 256 → ∃ tk, items[c]? = some (.str ⟨(enc c).toArray⟩ tk)) :
    Meets (Builtin.«str.translate» ⟨[.str x t, .ref l], []⟩) (fun _ R s => s.heap.IsList l items ∧ ∀ k t', R (.ok (.ret (.str ⟨((ch x).flatMap enc).toArray⟩ t'))) { s with toks := k }) := by
  refine .of_wp fun prog w A R s h => ?_
  obtain ⟨hl, h⟩ := h
  unfold Builtin.«str.translate»
  refine wpAny_bind (wpAny_of_eq (a := ((.str x t : Value), x, (.ref l : Value))) (by first | rfl | kernel_rfl!) ?_)
  dsimp only
  rw [if_neg (by simpa using hx0)]
  refine wpAny_bind (MeetsSeq2.wpAny_forIn_array _ (fun rem st s' => ∃ pre k, s' = { s with toks := k } ∧ pre ++ rem = ch x ∧ (st.1.reverse.map ch).flatten = pre.flatMap enc ∧ st.2.1 = (pre.flatMap enc).length ∧ (∀ p ∈ st.2.2.2.1, ∃ d, p.2 = some d ∧ enc p.1 = [d]) ∧ st.2.2.2.2 = false)
    (fun st s' => wpAny (model prog w) A.in1 _ _ _ s') ?turn ?fin x.cps _ ?init)
  case init => exact ⟨[], s.toks, rfl, rfl, rfl, rfl, fun p hp => (nomatch hp), rfl⟩
  case fin =>
    rintro ⟨pieces, total, fast, known, ad⟩ s' ⟨pre, k, rfl, h1, h2, h3, h4, h5⟩
    rw [List.append_nil] at h1
    subst h1
    dsimp only at h2 h3 ⊢
    have hn : ¬ (Str.tooLong total = true) := by
      unfold Str.tooLong
      rw [h3, decide_eq_true_eq, PySem.sizeLine_eq]
      omega
    rw [if_neg hn]
    have e : (⟨List.foldl (fun acc p => acc ++ p.cps) #[] pieces.reverse⟩ : PySem.Str) = ⟨((ch x).flatMap enc).toArray⟩ := by
      apply ext_ch
      show (List.foldl (fun acc p => acc ++ p.cps) #[] pieces.reverse).toList = _
      rw [foldl_cps, h2]
      simp [ch]
    rw [e]
    unfold retStr
    refine wpAny_bind (wpAny_mkStr (wpAny_pure ⟨_, rfl, h _ _⟩) ?_)
    rw [PySem.sizeLine_eq]; show ((ch x).flatMap enc).toArray.size ≤ _; rw [List.size_toArray]; omega
  case turn =>
    rintro c rest ⟨pieces, total, fast, known, ad⟩ s' ⟨pre, k, rfl, h1, h2, h3, h4, h5⟩
    dsimp only at h2 h3 h4 h5 ⊢
    subst h5
    have hc : c < 256 := hx c (by rw [← h1]; simp)
    obtain ⟨tk, htk⟩ := ht c hc
    have hpre : (pre.flatMap enc).length ≤ 1000000 := by
      refine Nat.le_trans ?_ hsz
      rw [← h1, List.flatMap_append, List.length_append]
      omega
    have hn : ¬ (Str.tooLong total = true) := by
      unfold Str.tooLong
      rw [h3, decide_eq_true_eq, PySem.sizeLine_eq]
      omega
    rw [if_neg hn]
    have hend : ∀ (p : PySem.Str) (fs : Bool) (kn : List (Nat × Option Nat)) (k' n' : Nat), ch p = enc c → n' = p.length → (∀ p ∈ kn, ∃ d, p.2 = some d ∧ enc p.1 = [d]) →
        ∃ pre' k'', ({ s with toks := k' } : Shared) = { s with toks := k'' } ∧ pre' ++ rest = ch x ∧ ((p :: pieces).reverse.map ch).flatten = pre'.flatMap enc ∧ total + n' = (pre'.flatMap enc).length ∧ (∀ p ∈ kn, ∃ d, p.2 = some d ∧ enc p.1 = [d]) ∧ false = false := by
      intro p fs kn k' n' hp hn' hkn
      refine ⟨pre ++ [c], k', rfl, by rw [← h1]; simp, ?_, ?_, hkn, rfl⟩
      · rw [List.reverse_cons, List.map_append, List.flatten_append, h2, List.flatMap_append]
        simp [hp]
      · rw [List.flatMap_append, List.length_append, h3, hn', ← ch_len, hp]
        simp
    have slow : ∀ (fs : Bool) (kn : List (Nat × Option Nat)) (k' : Nat), (∀ p ∈ kn, ∃ d, p.2 = some d ∧ enc p.1 = [d]) →
        wpAny (model prog w) A.in1 (do
          let m ← Str.tableLookup (.ref l) c
          match m with
            | Str.Mapped.keep => pure (ForInStep.yield (({ cps := #[c] } : PySem.Str) :: pieces, total + 1, fs, kn, false))
            | Str.Mapped.drop => pure (ForInStep.yield (pieces, total, fs, kn, true))
            | Str.Mapped.char d => pure (ForInStep.yield (({ cps := #[d] } : PySem.Str) :: pieces, total + 1, fs, kn, false))
            | Str.Mapped.text t => pure (ForInStep.yield (t :: pieces, total + t.length, fs, kn, false)))
          (fun r s' => ∃ b', r = .yield b' ∧ ∃ pre k, s' = { s with toks := k } ∧ pre ++ rest = ch x ∧ (b'.1.reverse.map ch).flatten = pre.flatMap enc ∧ b'.2.1 = (pre.flatMap enc).length ∧ (∀ p ∈ b'.2.2.2.1, ∃ d, p.2 = some d ∧ enc p.1 = [d]) ∧ b'.2.2.2.2 = false)
          (fun e s' => R (Except.error e) s') { s with toks := k' } := by
      intro fs kn k' hkn
      refine wpAny_bind (wp_tableLookup hl hc htk ?_)
      dsimp only
      exact wpAny_pure ⟨_, rfl, hend _ fs kn _ _ rfl rfl hkn⟩
    cases fast with
    | false =>
      simp only [Bool.false_eq_true, if_false]
      exact wpAny_mono (slow false known k h4) (fun r s' q => by obtain ⟨b', rfl, i⟩ := q; exact i) fun _ _ q => q
    | true =>
      simp only [if_true]
      cases hk : List.lookup c known with
      | some a =>
        dsimp only
        refine wpAny_bind (wpAny_pure ?_)
        have hm : (c, a) ∈ known := lookup_mem hk
        obtain ⟨d, hd1, hd2⟩ := h4 _ hm
        dsimp only at hd1 hd2
        subst hd1
        dsimp only
        exact wpAny_pure (hend ⟨#[d]⟩ true known k 1 hd2.symm rfl h4)
      | none =>
        dsimp only
        refine wpAny_bind (wp_tableLookup hl hc htk ?_)
        dsimp only
        by_cases hq : ((⟨(enc c).toArray⟩ : PySem.Str).length == 1 && (⟨(enc c).toArray⟩ : PySem.Str).cps.all fun x => decide (x < 128)) = true
        · rw [if_pos hq]
          have : ∃ d, enc c = [d] := by
            simp only [Bool.and_eq_true, beq_iff_eq] at hq
            have h1 : (enc c).length = 1 := by rw [← hq.1, ← ch_len]
            match hE : enc c, h1 with
            | [d], _ => exact ⟨d, rfl⟩
          obtain ⟨d, hd⟩ := this
          rw [hd]
          dsimp only
          refine wpAny_bind (wpAny_pure ?_)
          show wpAny _ _ (pure (ForInStep.yield (({ cps := #[d] } : PySem.Str) :: pieces, total + 1, true, (c, some d) :: known, false))) _ _ _
          refine wpAny_pure (hend ⟨#[d]⟩ true _ _ 1 hd.symm rfl ?_)
          intro p hp
          rcases List.mem_cons.mp hp with rfl | hp
          · exact ⟨d, rfl, hd⟩
          · exact h4 p hp
        · rw [if_neg hq]
          dsimp only
          refine wpAny_bind (wpAny_pure ?_)
          dsimp only
          refine wpAny_bind (wpAny_rule ?_)
          simp only [Bool.false_eq_true, if_false]
          exact wpAny_mono (slow false known _ h4) (fun r s' q => by obtain ⟨b', rfl, i⟩ := q; exact i) fun _ _ q => q
theorem gm_translate {M : Model} {A : Around} {E : Value → Shared → Prop} {s : Shared} {x : PySem.Str} {t : Tok} {pl : Sem Bool} {Q : Value × List Value → Shared → Prop} (h : Q (.builtin "str.translate", [.str x t]) s) : wpAny M A (getMethod (.str x t) "translate" pl) Q E s := by
  with_reducible exact GM.of (.str x t) (typeIs_str _ _ _) F.slot_str_translate F.type_str_translate GM.noRef h
section
variable {prog : Program} {w : World} {A : Around} {E : Value → Shared → Prop} {s : Shared}
theorem call_translate {x : PySem.Str} {t : Tok} {l : Addr} {items : Array Value} {Q : Value → Shared → Prop} (enc : Nat → List Nat) (hl : s.heap.IsList l items) (hx0 : x.length ≠ 0) (hx : ∀ c ∈ ch x, c < 256) (hsz : ((ch x).flatMap enc).length ≤ 1000000)
    (ht : ∀ c, c < 256 → ∃ tk, items[c]? = some (.str ⟨(enc c).toArray⟩ tk)) (h : ∀ k t', Q (.str ⟨((ch x).flatMap enc).toArray⟩ t') { s with toks := k }) :
    wpAny (model prog w) A (call (.builtin "str.translate") [.str x t, .ref l]) Q E s :=
  call_meets F.slot_str_translate (typeIs_str _ _ _) F.entry_str_translate (F.args_str_translate_2 _ _) (tr_meets enc hx0 hx hsz ht) ⟨hl, h⟩
end
end Mine
-- text E0
namespace Mine
set_option maxRecDepth 100000
def plainC (c : Nat) : Bool := (32 ≤ c && c ≤ 126 && c != 61) || c == 9 || c == 10 || c == 13
def encC (c : Nat) : List Nat := if plainC c then [c] else [61, hexDig (c / 16), hexDig (c % 16)]
def tabChk (items : Array Value) : Bool := (List.range 256).all fun c => match items[c]? with | some (.str s _) => s == ⟨(encC c).toArray⟩ | _ => false
theorem tabChk_at {items : Array Value} (h : tabChk items = true) : ∀ c, c < 256 → ∃ tk, items[c]? = some (.str ⟨(encC c).toArray⟩ tk) := by
  intro c hc
  have := List.all_eq_true.mp h c (List.mem_range.mpr hc)
  split at this
  · rename_i s tk e
    rw [e, beq_iff_eq.mp this]
    exact ⟨tk, rfl⟩
  · cases this
theorem tab46 (P : Params) : ∃ items n, (Mine.hdK P).lookup 46 = some ⟨.type "list", none, .seq items n, #[]⟩ ∧ ∀ c, c < 256 → ∃ tk, items[c]? = some (.str ⟨(encC c).toArray⟩ tk) :=
  ⟨_, _, rfl, tabChk_at (by decide +kernel)⟩
theorem isList46 {P : Params} {h : Heap} (X : (Mine.hdK P).In h) : ∃ items, h.IsList 46 items ∧ ∀ c, c < 256 → ∃ tk, items[c]? = some (.str ⟨(encC c).toArray⟩ tk) := by
  obtain ⟨items, n, e, q⟩ := tab46 P
  exact ⟨items, ⟨_, X _ _ e, rfl, n, rfl⟩, q⟩
/-- body_encode's inner loop: the pieces cut off a line, and what is left of it (k = maxlinelen - 1) -/
def encW (k : Nat) (r : List Nat) : List (List Nat) × List Nat :=
  if h : k + 2 ≤ r.length ∧ 3 ≤ k then
    if r.getD (k - 2) 0 = 61 then (r.take (k - 1) :: (encW k (r.drop (k - 2))).1, (encW k (r.drop (k - 2))).2)
    else if r.getD (k - 1) 0 = 61 then (r.take k :: (encW k (r.drop (k - 1))).1, (encW k (r.drop (k - 1))).2)
    else ((r.take k ++ [61]) :: (encW k (r.drop k)).1, (encW k (r.drop k)).2)
  else ([], r)
termination_by r.length
decreasing_by all_goals (rw [List.length_drop]; omega)
def quoteL (c : Nat) : List Nat := [61, hexDig (c / 16), hexDig (c % 16)]
/-- a line's last piece (l: the line, r: what is left of it) -/
def encLast (k : Nat) (e l r : List Nat) : List Nat :=
  if l ≠ [] ∧ (l.getD (l.length - 1) 0 = 32 ∨ l.getD (l.length - 1) 0 = 9) then
    r.take (r.length - 1) ++ (if r.length + 1 ≤ k then quoteL (l.getD (l.length - 1) 0) else if r.length = k then l.getD (l.length - 1) 0 :: 61 :: e else (61 :: e) ++ quoteL (l.getD (l.length - 1) 0))
  else r
def encLine (k : Nat) (e l : List Nat) : List (List Nat) := (encW k l).1 ++ [encLast k e l (encW k l).2]
/-- the joined pieces -/
def joinL (e : List Nat) : List (List Nat) → List Nat
  | [] => []
  | [a] => a
  | a :: b :: r => a ++ e ++ joinL e (b :: r)
def encPieces (k : Nat) (e : List Nat) (x : List Nat) : List (List Nat) :=
  ((Txt.lines ⟨x.toArray⟩).map fun l => encLine k e (ch l)).flatten ++ (if x.getD (x.length - 1) 0 = 13 ∨ x.getD (x.length - 1) 0 = 10 then [[]] else [])
def encF (k : Nat) (e x : List Nat) : List Nat := joinL e (encPieces k e (x.flatMap encC))
end Mine
-- text EW
set_option linter.unusedVariables false
set_option linter.unusedSimpArgs false
namespace Mine
section
variable {K : Nat} {r : List Nat}
theorem encW_1 (h : K + 2 ≤ r.length) (hK : 3 ≤ K) (h1 : r.getD (K - 2) 0 = 61) : encW K r = (r.take (K - 1) :: (encW K (r.drop (K - 2))).1, (encW K (r.drop (K - 2))).2) := by
  rw [encW, dif_pos ⟨h, hK⟩, if_pos h1]
theorem encW_2 (h : K + 2 ≤ r.length) (hK : 3 ≤ K) (h1 : r.getD (K - 2) 0 ≠ 61) (h2 : r.getD (K - 1) 0 = 61) : encW K r = (r.take K :: (encW K (r.drop (K - 1))).1, (encW K (r.drop (K - 1))).2) := by
  rw [encW, dif_pos ⟨h, hK⟩, if_neg h1, if_pos h2]
theorem encW_3 (h : K + 2 ≤ r.length) (hK : 3 ≤ K) (h1 : r.getD (K - 2) 0 ≠ 61) (h2 : r.getD (K - 1) 0 ≠ 61) : encW K r = ((r.take K ++ [61]) :: (encW K (r.drop K)).1, (encW K (r.drop K)).2) := by
  rw [encW, dif_pos ⟨h, hK⟩, if_neg h1, if_neg h2]
theorem encW_0 (h : ¬ K + 2 ≤ r.length) : encW K r = ([], r) := by
  rw [encW, dif_neg (fun q => h q.1)]
end
theorem item_is61 {x : Str} {i : Int} (h0 : 0 ≤ i) (h1 : i < x.length) : (Txt.item x i == Str.ofString "=") = decide ((ch x).getD i.toNat 0 = 61) := by
  have := item_eq61 h0 h1
  have e : (Txt.item x i == Str.ofString "=") = !(Txt.item x i != Str.ofString "=") := by simp [bne]
  rw [e, this]
  by_cases h : (ch x).getD i.toNat 0 = 61 <;> simp [h]
theorem getD_drop (l : List Nat) (a b : Nat) : (l.drop a).getD b 0 = l.getD (a + b) 0 := by simp [List.getD]
abbrev chp (ps : List (Str × Tok)) : List (List Nat) := ps.map fun p => ch p.1
section
variable {a : Str} {m : Int} {k0 : Nat} {pcs : List (Str × Tok)} {P : List (List Nat)} {W : List (List Nat) × List Nat} {t : Tok}
theorem slice_nat (x : Str) {i j : Int} {p q : Nat} (hi : i = p) (hj : j = q) (hpq : p ≤ q) (hq : q ≤ x.length) : ch (Txt.slice x (some i) (some j)) = ((ch x).drop p).take (q - p) := by
  rw [slice_gen]
  have e1 : clipN 0 (some i) x.length = p := by unfold clipN; simp only []; omega
  have e2 : clipN x.length (some j) x.length = q := by unfold clipN; simp only []; omega
  rw [e1, e2]
theorem ew1 (hm : 4 ≤ m) (hle : (k0 : Int) ≤ a.length - 1 - m) (h61 : (Txt.item a ((k0 : Int) + (m - 1) - 2) == Str.ofString "=") = true)
    (h1 : chp pcs ++ (encW (m - 1).toNat ((ch a).drop k0)).1 = P) (h2 : (encW (m - 1).toNat ((ch a).drop k0)).2 = W.2) :
    ∃ k1 : Nat, (k0 : Int) + (m - 1) - 2 = k1 ∧ k1 ≤ (ch a).length ∧ chp (pcs ++ [(Txt.slice a (some (k0 : Int)) (some ((k0 : Int) + (m - 1) - 1)), t)]) ++ (encW (m - 1).toNat ((ch a).drop k1)).1 = P ∧ (encW (m - 1).toNat ((ch a).drop k1)).2 = W.2 := by
  obtain ⟨K, hK⟩ : ∃ K : Nat, m - 1 = K := ⟨(m - 1).toNat, by omega⟩
  have hl := ch_len a
  have eK : (m - 1).toNat = K := by omega
  have e1 : (k0 : Int) + (m - 1) - 2 = ((k0 + (K - 2) : Nat) : Int) := by omega
  rw [eK] at h1 h2 ⊢
  rw [e1, item_is61 (by omega) (by omega), decide_eq_true_eq] at h61
  have hr : K + 2 ≤ ((ch a).drop k0).length := by rw [List.length_drop]; omega
  have h61' : ((ch a).drop k0).getD (K - 2) 0 = 61 := by rw [getD_drop]; exact h61
  rw [encW_1 hr (by omega) h61'] at h1 h2
  refine ⟨k0 + (K - 2), e1, by omega, ?_, ?_⟩
  · rw [← h1]
    simp only [chp, List.map_append, List.map_cons, List.map_nil]
    rw [slice_nat a (p := k0) (q := k0 + (K - 1)) rfl (by omega) (by omega) (by omega), ← List.drop_drop]
    rw [show k0 + (K - 1) - k0 = K - 1 from by omega]
    simp
  · rw [← List.drop_drop]; exact h2
theorem ew2 (hm : 4 ≤ m) (hle : (k0 : Int) ≤ a.length - 1 - m) (h60 : (Txt.item a ((k0 : Int) + (m - 1) - 2) == Str.ofString "=") = false) (h61 : (Txt.item a ((k0 : Int) + (m - 1) - 1) == Str.ofString "=") = true)
    (h1 : chp pcs ++ (encW (m - 1).toNat ((ch a).drop k0)).1 = P) (h2 : (encW (m - 1).toNat ((ch a).drop k0)).2 = W.2) :
    ∃ k1 : Nat, (k0 : Int) + (m - 1) - 1 = k1 ∧ k1 ≤ (ch a).length ∧ chp (pcs ++ [(Txt.slice a (some (k0 : Int)) (some ((k0 : Int) + (m - 1))), t)]) ++ (encW (m - 1).toNat ((ch a).drop k1)).1 = P ∧ (encW (m - 1).toNat ((ch a).drop k1)).2 = W.2 := by
  obtain ⟨K, hK⟩ : ∃ K : Nat, m - 1 = K := ⟨(m - 1).toNat, by omega⟩
  have hl := ch_len a
  have eK : (m - 1).toNat = K := by omega
  have e0 : (k0 : Int) + (m - 1) - 2 = ((k0 + (K - 2) : Nat) : Int) := by omega
  have e1 : (k0 : Int) + (m - 1) - 1 = ((k0 + (K - 1) : Nat) : Int) := by omega
  rw [eK] at h1 h2 ⊢
  rw [e0, item_is61 (by omega) (by omega), decide_eq_false_iff_not] at h60
  rw [e1, item_is61 (by omega) (by omega), decide_eq_true_eq] at h61
  have hr : K + 2 ≤ ((ch a).drop k0).length := by rw [List.length_drop]; omega
  have h60' : ((ch a).drop k0).getD (K - 2) 0 ≠ 61 := by rw [getD_drop]; exact h60
  have h61' : ((ch a).drop k0).getD (K - 1) 0 = 61 := by rw [getD_drop]; exact h61
  rw [encW_2 hr (by omega) h60' h61'] at h1 h2
  refine ⟨k0 + (K - 1), e1, by omega, ?_, ?_⟩
  · rw [← h1]
    simp only [chp, List.map_append, List.map_cons, List.map_nil]
    rw [slice_nat a (p := k0) (q := k0 + K) rfl (by omega) (by omega) (by omega), ← List.drop_drop]
    rw [show k0 + K - k0 = K from by omega]
    simp
  · rw [← List.drop_drop]; exact h2
theorem ew3 (hm : 4 ≤ m) (hle : (k0 : Int) ≤ a.length - 1 - m) (h60 : (Txt.item a ((k0 : Int) + (m - 1) - 2) == Str.ofString "=") = false) (h61 : (Txt.item a ((k0 : Int) + (m - 1) - 1) == Str.ofString "=") = false)
    (h1 : chp pcs ++ (encW (m - 1).toNat ((ch a).drop k0)).1 = P) (h2 : (encW (m - 1).toNat ((ch a).drop k0)).2 = W.2) :
    ∃ k1 : Nat, (k0 : Int) + (m - 1) = k1 ∧ k1 ≤ (ch a).length ∧ chp (pcs ++ [(Txt.slice a (some (k0 : Int)) (some ((k0 : Int) + (m - 1))) ++ Str.ofString "=", t)]) ++ (encW (m - 1).toNat ((ch a).drop k1)).1 = P ∧ (encW (m - 1).toNat ((ch a).drop k1)).2 = W.2 := by
  obtain ⟨K, hK⟩ : ∃ K : Nat, m - 1 = K := ⟨(m - 1).toNat, by omega⟩
  have hl := ch_len a
  have eK : (m - 1).toNat = K := by omega
  have e0 : (k0 : Int) + (m - 1) - 2 = ((k0 + (K - 2) : Nat) : Int) := by omega
  have e1 : (k0 : Int) + (m - 1) - 1 = ((k0 + (K - 1) : Nat) : Int) := by omega
  rw [eK] at h1 h2 ⊢
  rw [e0, item_is61 (by omega) (by omega), decide_eq_false_iff_not] at h60
  rw [e1, item_is61 (by omega) (by omega), decide_eq_false_iff_not] at h61
  have hr : K + 2 ≤ ((ch a).drop k0).length := by rw [List.length_drop]; omega
  have h60' : ((ch a).drop k0).getD (K - 2) 0 ≠ 61 := by rw [getD_drop]; exact h60
  have h61' : ((ch a).drop k0).getD (K - 1) 0 ≠ 61 := by rw [getD_drop]; exact h61
  rw [encW_3 hr (by omega) h60' h61'] at h1 h2
  have e : ch (Str.ofString "=") = [61] := by decide +kernel
  refine ⟨k0 + K, by omega, by omega, ?_, ?_⟩
  · rw [← h1]
    simp only [chp, List.map_append, List.map_cons, List.map_nil]
    rw [ch_app, e, slice_nat a (p := k0) (q := k0 + K) rfl (by omega) (by omega) (by omega), ← List.drop_drop]
    rw [show k0 + K - k0 = K from by omega]
    simp
  · rw [← List.drop_drop]; exact h2
theorem ew0 (hle : ¬ (k0 : Int) ≤ a.length - 1 - m) (hm : 4 ≤ m) (hk : k0 ≤ (ch a).length)
    (h1 : chp pcs ++ (encW (m - 1).toNat ((ch a).drop k0)).1 = P) (h2 : (encW (m - 1).toNat ((ch a).drop k0)).2 = W.2) : chp pcs = P ∧ (ch a).drop k0 = W.2 ∧ (W.2.length : Int) = a.length - k0 := by
  have hl := ch_len a
  rw [encW_0 (by rw [List.length_drop]; omega)] at h1 h2
  refine ⟨by simpa using h1, h2, ?_⟩
  rw [← h2, List.length_drop]; omega
end
theorem encW_len (K : Nat) (r : List Nat) : (encW K r).1.length ≤ r.length := by
  generalize hn : r.length = n
  induction n using Nat.strongRecOn generalizing r with
  | ind n ih =>
    by_cases h : K + 2 ≤ r.length ∧ 3 ≤ K
    · by_cases h1 : r.getD (K - 2) 0 = 61
      · rw [encW_1 h.1 h.2 h1]
        have := ih (r.drop (K - 2)).length (by rw [List.length_drop]; omega) _ rfl
        rw [List.length_drop] at this
        simp only [List.length_cons]; omega
      · by_cases h2 : r.getD (K - 1) 0 = 61
        · rw [encW_2 h.1 h.2 h1 h2]
          have := ih (r.drop (K - 1)).length (by rw [List.length_drop]; omega) _ rfl
          rw [List.length_drop] at this
          simp only [List.length_cons]; omega
        · rw [encW_3 h.1 h.2 h1 h2]
          have := ih (r.drop K).length (by rw [List.length_drop]; omega) _ rfl
          rw [List.length_drop] at this
          simp only [List.length_cons]; omega
    · rw [encW, dif_neg h]; simp
theorem encLine_len (K : Nat) (e l : List Nat) : (encLine K e l).length ≤ l.length + 1 := by
  unfold encLine
  rw [List.length_append]
  have := encW_len K l
  simp only [List.length_cons, List.length_nil]; omega
theorem flat_len (f : Str → List (List Nat)) (hf : ∀ a, (f a).length ≤ a.length + 1) : ∀ ls : List Str, ((ls.map f).flatten).length ≤ (ls.map (·.length)).sum + ls.length
  | [] => by simp
  | a :: r => by
    have := flat_len f hf r
    have := hf a
    simp only [List.map_cons, List.flatten_cons, List.length_append, List.sum_cons, List.length_cons]; omega
theorem sum_take (ls : List Str) (i : Nat) : ((ls.take i).map (·.length)).sum + (ls.take i).length ≤ (ls.map (·.length)).sum + ls.length := by
  conv => rhs; rw [← List.take_append_drop i ls]
  rw [List.map_append, List.sum_append, List.length_append]; omega
theorem pre_len (K : Nat) (e : List Nat) (z : Str) (i : Nat) : ((((Txt.lines z).take i).map fun a => encLine K e (ch a)).flatten).length ≤ z.length + 1 := by
  refine Nat.le_trans (flat_len (fun a => encLine K e (ch a)) (fun a => by have := encLine_len K e (ch a); rw [ch_len] at this; exact this) _) ?_
  exact Nat.le_trans (sum_take _ _) (StrLaws.lines_weight z)
theorem encC_len (c : Nat) : 1 ≤ (encC c).length ∧ (encC c).length ≤ 3 := by unfold encC; split <;> simp
theorem flatC_len : ∀ l : List Nat, l.length ≤ (l.flatMap encC).length ∧ (l.flatMap encC).length ≤ 3 * l.length
  | [] => by simp
  | c :: r => by
    have := flatC_len r
    have := encC_len c
    simp only [List.flatMap_cons, List.length_append, List.length_cons]; omega
section
variable {a y : Str} {m : Int} {k0 : Nat} {r : List Nat}
theorem blank_in (h : a.length ≠ 0) : (PySem.Builtin.Str.occurrences (Str.ofString " \t") (Txt.item a (-1)) 0 (Str.ofString " \t").length 1).isEmpty = !decide ((ch a).getD ((ch a).length - 1) 0 = 32 ∨ (ch a).getD ((ch a).length - 1) 0 = 9) := by
  rw [item_last h, contains_one, ch_len]
  have e : ch (Str.ofString " \t") = [32, 9] := by decide +kernel
  rw [e]
  simp
theorem slice_sn (hk : k0 ≤ (ch a).length) : ch (Txt.slice a (some (k0 : Int)) none) = (ch a).drop k0 := by
  have hl := ch_len a
  rw [slice_gen]
  have e1 : clipN 0 (some (k0 : Int)) a.length = k0 := by unfold clipN; simp only []; omega
  have e2 : clipN a.length none a.length = a.length := rfl
  rw [e1, e2, List.take_of_length_le]
  rw [List.length_drop]; omega
theorem slice_s1 (hk : k0 ≤ (ch a).length) (h : a.length ≠ 0) : ch (Txt.slice a (some (k0 : Int)) (some (-1))) = ((ch a).drop k0).take (((ch a).drop k0).length - 1) := by
  have hl := ch_len a
  rw [slice_gen]
  have e1 : clipN 0 (some (k0 : Int)) a.length = k0 := by unfold clipN; simp only []; omega
  have e2 : clipN a.length (some (-1)) a.length = a.length - 1 := by unfold clipN; simp only []; omega
  rw [e1, e2, List.length_drop]
  congr 1; omega
theorem end_plain0 (hk : k0 ≤ (ch a).length) (hr : (ch a).drop k0 = r) (h0 : (a.length : Int) = 0) : ch (Txt.slice a (some (k0 : Int)) none) = encLast (m - 1).toNat (ch y) (ch a) r := by
  have hl := ch_len a
  have : ch a = [] := List.eq_nil_of_length_eq_zero (by omega)
  rw [slice_sn hk, hr, encLast, if_neg (fun q => q.1 this)]
theorem end_plain1 (hk : k0 ≤ (ch a).length) (hr : (ch a).drop k0 = r) (h0 : (a.length : Int) ≠ 0) (hb : (PySem.Builtin.Str.occurrences (Str.ofString " \t") (Txt.item a (-1)) 0 (Str.ofString " \t").length 1).isEmpty = true) :
    ch (Txt.slice a (some (k0 : Int)) none) = encLast (m - 1).toNat (ch y) (ch a) r := by
  rw [blank_in (by omega)] at hb
  rw [slice_sn hk, hr, encLast, if_neg]
  rintro ⟨_, q⟩
  rw [decide_eq_true q] at hb
  cases hb
theorem last_blank (h0 : (a.length : Int) ≠ 0) (hb : (PySem.Builtin.Str.occurrences (Str.ofString " \t") (Txt.item a (-1)) 0 (Str.ofString " \t").length 1).isEmpty = false) :
    ch a ≠ [] ∧ ((ch a).getD ((ch a).length - 1) 0 = 32 ∨ (ch a).getD ((ch a).length - 1) 0 = 9) := by
  have hl := ch_len a
  rw [blank_in (by omega)] at hb
  refine ⟨fun q => by rw [q] at hl; exact h0 (by rw [← hl]; rfl), ?_⟩
  generalize (ch a).getD ((ch a).length - 1) 0 = c at hb ⊢
  by_cases h1 : c = 32 ∨ c = 9
  · exact h1
  · rw [decide_eq_false h1] at hb; cases hb
theorem end_3 (hk : k0 ≤ (ch a).length) (hr : (ch a).drop k0 = r) (h0 : (a.length : Int) ≠ 0) (hm : 4 ≤ m) (hb : ch a ≠ [] ∧ ((ch a).getD ((ch a).length - 1) 0 = 32 ∨ (ch a).getD ((ch a).length - 1) 0 = 9)) (h3 : 3 ≤ (k0 : Int) - (a.length - 1 - m)) {c : Nat} (hc : c = (ch a).getD (a.length - 1) 0) :
    ch (Txt.slice a (some (k0 : Int)) (some (-1)) ++ ⟨#[61, hexDig (c / 16), hexDig (c % 16)]⟩) = encLast (m - 1).toNat (ch y) (ch a) r := by
  have hl := ch_len a
  have hrl : r.length = a.length - k0 := by rw [← hr, List.length_drop]; omega
  rw [ch_app, slice_s1 hk (by omega), hr, encLast, if_pos hb, if_pos (by omega), hl, ← hc]
  rfl
theorem end_2 (hk : k0 ≤ (ch a).length) (hr : (ch a).drop k0 = r) (h0 : (a.length : Int) ≠ 0) (hm : 4 ≤ m) (hb : ch a ≠ [] ∧ ((ch a).getD ((ch a).length - 1) 0 = 32 ∨ (ch a).getD ((ch a).length - 1) 0 = 9)) (h2 : (k0 : Int) - (a.length - 1 - m) = 2) :
    ch (Txt.slice a (some (k0 : Int)) (some (-1)) ++ (Txt.item a (-1) ++ (Str.ofString "=" ++ y))) = encLast (m - 1).toNat (ch y) (ch a) r := by
  have hl := ch_len a
  have hrl : r.length = a.length - k0 := by rw [← hr, List.length_drop]; omega
  have e : ch (Str.ofString "=") = [61] := by decide +kernel
  rw [ch_app, ch_app, ch_app, slice_s1 hk (by omega), hr, encLast, if_pos hb, if_neg (by omega), if_pos (by omega), hl, item_last (by omega), ch_one, e]
  rfl
theorem end_1 (hk : k0 ≤ (ch a).length) (hr : (ch a).drop k0 = r) (h0 : (a.length : Int) ≠ 0) (hm : 4 ≤ m) (hb : ch a ≠ [] ∧ ((ch a).getD ((ch a).length - 1) 0 = 32 ∨ (ch a).getD ((ch a).length - 1) 0 = 9)) (h3 : ¬ 3 ≤ (k0 : Int) - (a.length - 1 - m)) (h2 : ¬ (k0 : Int) - (a.length - 1 - m) = 2) (hle : ¬ (k0 : Int) ≤ a.length - 1 - m) {c : Nat} (hc : c = (ch a).getD (a.length - 1) 0) :
    ch (Txt.slice a (some (k0 : Int)) (some (-1)) ++ (Str.ofString "=" ++ y ++ ⟨#[61, hexDig (c / 16), hexDig (c % 16)]⟩)) = encLast (m - 1).toNat (ch y) (ch a) r := by
  have hl := ch_len a
  have hrl : r.length = a.length - k0 := by rw [← hr, List.length_drop]; omega
  have e : ch (Str.ofString "=") = [61] := by decide +kernel
  rw [ch_app, ch_app, ch_app, slice_s1 hk (by omega), hr, encLast, if_pos hb, if_neg (by omega), if_neg (by omega), hl, ← hc, e]
  rfl
theorem line_end {pcs cs : List (Str × Tok)} {ls : List Str} {i : Nat} {K : Nat} {e : List Nat} {piece : Str} {t : Tok} (hP : chp cs = ((ls.take i).map fun a => encLine K e (ch a)).flatten) (ha : ls[i]? = some a)
    (h1 : chp pcs = chp cs ++ (encW K (ch a)).1) (h2 : ch piece = encLast K e (ch a) (encW K (ch a)).2) :
    chp (pcs ++ [(piece, t)]) = ((ls.take (i + 1)).map fun a => encLine K e (ch a)).flatten := by
  simp only [chp, List.map_append, List.map_cons, List.map_nil] at h1 hP ⊢
  rw [h1, hP, List.take_add_one, ha, h2]
  simp [encLine]
end
theorem encW_piece (K : Nat) (r : List Nat) : (∀ p ∈ (encW K r).1, p.length ≤ K + 1) ∧ (3 ≤ K → (encW K r).2.length ≤ K + 1) := by
  generalize hn : r.length = n
  induction n using Nat.strongRecOn generalizing r with
  | ind n ih =>
    by_cases h : K + 2 ≤ r.length ∧ 3 ≤ K
    · by_cases h1 : r.getD (K - 2) 0 = 61
      · rw [encW_1 h.1 h.2 h1]
        have q := ih (r.drop (K - 2)).length (by rw [List.length_drop]; omega) _ rfl
        refine ⟨fun p hp => ?_, q.2⟩
        rcases List.mem_cons.mp hp with rfl | hp
        · rw [List.length_take]; omega
        · exact q.1 p hp
      · by_cases h2 : r.getD (K - 1) 0 = 61
        · rw [encW_2 h.1 h.2 h1 h2]
          have q := ih (r.drop (K - 1)).length (by rw [List.length_drop]; omega) _ rfl
          refine ⟨fun p hp => ?_, q.2⟩
          rcases List.mem_cons.mp hp with rfl | hp
          · rw [List.length_take]; omega
          · exact q.1 p hp
        · rw [encW_3 h.1 h.2 h1 h2]
          have q := ih (r.drop K).length (by rw [List.length_drop]; omega) _ rfl
          refine ⟨fun p hp => ?_, q.2⟩
          rcases List.mem_cons.mp hp with rfl | hp
          · rw [List.length_append, List.length_take]; simp only [List.length_cons, List.length_nil]; omega
          · exact q.1 p hp
    · rw [encW, dif_neg h]
      exact ⟨fun p hp => (nomatch hp), fun h3 => by show r.length ≤ K + 1; omega⟩
theorem encLine_piece (K : Nat) (e l : List Nat) (hK : 3 ≤ K) : ∀ p ∈ encLine K e l, p.length ≤ K + e.length + 6 := by
  intro p hp
  have q := encW_piece K l
  unfold encLine at hp
  rcases List.mem_append.mp hp with hp | hp
  · have := q.1 p hp; omega
  · rw [List.mem_singleton.mp hp]
    have := q.2 hK
    unfold encLast quoteL
    split
    · rw [List.length_append, List.length_take]
      split
      · simp only [List.length_cons, List.length_nil]; omega
      · split
        · simp only [List.length_cons, List.length_nil]; omega
        · simp only [List.length_append, List.length_cons, List.length_nil]; omega
    · omega
theorem pieces_len (K : Nat) (e : List Nat) (hK : 3 ≤ K) (ls : List Str) : ∀ p ∈ (ls.map fun a => encLine K e (ch a)).flatten, p.length ≤ K + e.length + 6 := by
  intro p hp
  obtain ⟨l, hl, hp⟩ := List.mem_flatten.mp hp
  obtain ⟨a, _, rfl⟩ := List.mem_map.mp hl
  exact encLine_piece K e (ch a) hK p hp
theorem join_ch (sep : Str) : ∀ xs : List Str, ch (Str.join sep xs) = joinL (ch sep) (xs.map ch)
  | [] => rfl
  | [a] => rfl
  | a :: b :: r => by
    rw [PyProof.Rows.join_cons_cons, ch_app, ch_app, join_ch sep (b :: r)]
    rfl
theorem txtjoin_ch (sep : Str) (xs : List Str) : ch (Txt.join sep xs) = joinL (ch sep) (xs.map ch) := by
  show ch (PySem.Builtin.Str.glued sep xs) = _
  rw [StrLaws.glued_eq_join, join_ch]
theorem join_fits {sep : Str} {ps : List (Str × Tok)} (h1 : ps.length ≤ 40000) (h2 : ∀ p ∈ chp ps, p.length ≤ 200) (h3 : sep.length ≤ 10) : JoinOk sep (ps.map (·.1)) = true := by
  refine joinOk_of ?_
  have : ∀ (l : List (Str × Tok)), (∀ p ∈ chp l, p.length ≤ 200) → ((l.map (·.1)).map (·.length)).sum ≤ 200 * l.length := by
    intro l
    induction l with
    | nil => intro _; simp
    | cons a r ih =>
      intro h
      have h1 := ih fun p hp => h p (List.mem_cons_of_mem _ hp)
      have h2 := h (ch a.1) (List.mem_cons_self ..)
      rw [ch_len] at h2
      simp only [List.map_cons, List.sum_cons, List.length_cons]; omega
  have h4 := this ps h2
  rw [List.length_map]
  have h5 : ps.length * sep.length ≤ 40000 * 10 := Nat.mul_le_mul h1 h3
  omega
theorem chp_map (ps : List (Str × Tok)) : (ps.map (·.1)).map ch = chp ps := by simp [chp]
theorem call_join_N {prog : Program} {w : World} {A : Around} {E : Value → Shared → Prop} {s : Shared} {h₀ : Heap} {L D : Addr} {news : List (Addr × Obj)} {ps : List (Str × Tok)} {n : Nat} {sep : Str} {t : Tok} {Q : Value → Shared → Prop}
    (N : News h₀ L s.heap news) (hl : (D, listOf (strValues ps).toArray n) ∈ news) (h1 : ps.length ≤ 40000) (h2 : ∀ p ∈ chp ps, p.length ≤ 200) (h3 : sep.length ≤ 10)
    (h : ∀ z t' k, ch z = joinL (ch sep) (chp ps) → Q (.str z t') { s with toks := k }) : wpAny (model prog w) A (call (.builtin "str.join") [.str sep t, .ref D]) Q E s :=
  SC.join (show s.heap.IsList D (strValues ps).toArray from ⟨_, (N _ hl).1, rfl, n, rfl⟩) rfl (join_fits h1 h2 h3) fun t' k => h _ t' k (by rw [txtjoin_ch, chp_map])
section
variable {x z : Str} {ps : List (Str × Tok)} {k : Nat} {e : List Nat}
theorem encF_no (hz : (⟨((ch x).flatMap encC).toArray⟩ : Str) = z) (hz0 : z.length ≠ 0) (hP : chp ps = ((Txt.lines z).map fun a => encLine k e (ch a)).flatten) (h : (PySem.Builtin.Str.occurrences (Str.ofString "\r\n") (Txt.item z (-1)) 0 (Str.ofString "\r\n").length 1).isEmpty = true) :
    joinL e (chp ps) = encF k e (ch x) := by
  rw [crlf_in hz0, decide_eq_true_eq] at h
  have hc : ch z = (ch x).flatMap encC := by rw [← hz]
  rw [← ch_len, hc] at h
  unfold encF encPieces
  rw [hz, if_neg (fun q => q.elim h.1 h.2), List.append_nil, hP]
theorem encF_yes {t : Tok} (hz : (⟨((ch x).flatMap encC).toArray⟩ : Str) = z) (hz0 : z.length ≠ 0) (hP : chp ps = ((Txt.lines z).map fun a => encLine k e (ch a)).flatten) (h : (PySem.Builtin.Str.occurrences (Str.ofString "\r\n") (Txt.item z (-1)) 0 (Str.ofString "\r\n").length 1).isEmpty = false) :
    joinL e (chp (ps ++ [(Str.ofString "", t)])) = encF k e (ch x) := by
  rw [crlf_in hz0, decide_eq_false_iff_not] at h
  have hc : ch z = (ch x).flatMap encC := by rw [← hz]
  rw [← ch_len, hc] at h
  unfold encF encPieces
  have e1 : ch (Str.ofString "") = [] := by decide +kernel
  rw [hz, if_pos, ← hP]
  · simp [chp, e1]
  · by_cases q : ((ch x).flatMap encC).getD (((ch x).flatMap encC).length - 1) 0 = 13
    · exact .inl q
    · exact .inr (Decidable.byContradiction fun q2 => h ⟨q, q2⟩)
end
end Mine
-- text BM
namespace Mine
open PySem.Calls PySem.Builtin PySem.Builtin.ObjectAttr
set_option maxRecDepth 100000
namespace FF
theorem slot_list_ga : Slot "list" "__getattribute__" "list.__getattribute__" :=
  .of (owner := "list") (n := "__getattribute__") (by rw [typeLookup_type, builtinLookup_eq_fast]; kernel_rfl) (by decide +kernel) (by decide +kernel) (by decide +kernel) (by first | exact .inl (by decide +kernel) | exact .inr (by decide +kernel)) (by rw [isSubtype_type]; kernel_rfl)
theorem entry_list_ga : entryFor table "list.__getattribute__" = some Builtin.«object.__getattribute__» := entryFor_alias (id' := "object.__getattribute__") (by rw [fastTable_eq_tree]; kernel_rfl) (by first | rfl | decide +kernel) (by decide +kernel) (by rw [fastTable_eq_tree]; kernel_rfl)
theorem args_list_ga (a b : Value) : argsOk "list.__getattribute__" ⟨[a, b], []⟩ := by unfold argsOk; kernel_rfl
theorem slot_md_get : Slot "method_descriptor" "__get__" "method_descriptor.__get__" :=
  .of (owner := "method_descriptor") (n := "__get__") (by rw [typeLookup_type, builtinLookup_eq_fast]; kernel_rfl) (by decide +kernel) (by decide +kernel) (by decide +kernel) (by first | exact .inl (by decide +kernel) | exact .inr (by decide +kernel)) (by rw [isSubtype_type]; kernel_rfl)
theorem entry_md_get : entryFor table "method_descriptor.__get__" = some Builtin.«method_descriptor.__get__» := by first | exact entryFor_of_fast (by kernel_rfl) | exact entryFor_of_tree (by kernel_rfl)
theorem args_md_get (a b c : Value) : argsOk "method_descriptor.__get__" ⟨[a, b, c], []⟩ := by unfold argsOk; kernel_rfl
theorem type_append : typeOf (.builtin "list.append") = pure (.type "method_descriptor") := by show builtinType _ = _; rw [builtinType_eq_fast]; kernel_rfl
theorem look_append : typeLookup (.type "list") "append" = pure (some (.builtin "list.append")) := by rw [typeLookup_type, builtinLookup_eq_fast]; kernel_rfl
theorem sub_list : isSubtype (.type "list") (.type "list") = pure true := by rw [isSubtype_type]; kernel_rfl
theorem md_set : typeLookup (.type "method_descriptor") "__set__" = pure none := by rw [typeLookup_type, builtinLookup_eq_fast]; kernel_rfl
theorem md_del : typeLookup (.type "method_descriptor") "__delete__" = pure none := by rw [typeLookup_type, builtinLookup_eq_fast]; kernel_rfl
def sigA : Manifest.Signature := ⟨.oneArg, "list.append", "append", .self, [⟨"object", .posOnly, true⟩]⟩
theorem sig_append : Manifest.signature? "list.append" = some sigA := by kernel_rfl
theorem kind_append : builtinKind "list.append" = some .method := by kernel_rfl
theorem list_not_module : isSubtype (.type "list") (.type "module") = pure false := by rw [isSubtype_type]; kernel_rfl
theorem check_append (a b : Value) : Bind.checkArgs "list.append" { sigA with full := s!"{Bind.lastOf "list"}.{Bind.lastOf "list.append"}" } ⟨[a, b], []⟩ = pure () := by kernel_rfl
end FF
def appObj (l : Addr) : Obj := { cls := .type "builtin_function_or_method", data := .fields #[.builtin "list.append", .ref l] }
theorem list_typeIs {s : Shared} {l : Addr} {items : Array Value} (hl : s.heap.IsList l items) : s.TypeIs (.ref l) "list" := hl.typeIs
section
variable {prog : Program} {w : World} {A : Around} {E : Value → Shared → Prop}  {h : Heap} {g : Array GenState} {d : Drawn} {t : Nat} {os : OsState} {l : Addr} {items : Array Value} {n : Nat}
theorem wp_md_get {Q : PySem.Fin → Shared → Prop} (hl : h.get? l = some (listOf items n)) (hq : Q (.done (.ret (.ref h.objs.size))) ⟨h.push (appObj l), g, d, t, os⟩) :
    wpAny (model prog w) A (Builtin.«method_descriptor.__get__» ⟨[.builtin "list.append", .ref l, .type "list"], []⟩) Q E ⟨h, g, d, t, os⟩ := by
  unfold Builtin.«method_descriptor.__get__»
  repeat (any_goals (first | assumption | wp_step))
  have e1 : ".".intercalate ("list.append".cutAt '.').dropLast = "list" := by decide +kernel
  refine wpAny_of_eq (a := true) (by rw [e1]; exact FF.sub_list) ?_
  rw [if_neg (by decide)]
  refine wpAny_pure ?_
  refine wpAny_bind (wpAny_newObj_type ?_ ?_)
  · exact wpAny_pure hq
  · exact Nat.le_of_ble_eq_true rfl
theorem wp_list_ga {u : Tok} {Q : PySem.Fin → Shared → Prop} (hl : h.get? l = some (listOf items n)) (hq : Q (.done (.ret (.ref h.objs.size))) ⟨h.push (appObj l), g, d, t, os⟩) :
    wpAny (model prog w) A (Builtin.«object.__getattribute__» ⟨[.ref l, .str "append" u], []⟩) Q E ⟨h, g, d, t, os⟩ := by
  have hT : (⟨h, g, d, t, os⟩ : Shared).TypeIs (.ref l) "list" := ⟨_, hl, rfl⟩
  have hM : (⟨h, g, d, t, os⟩ : Shared).TypeIs (.builtin "list.append") "method_descriptor" := FF.type_append
  unfold Builtin.«object.__getattribute__»
  refine wpAny_bind (wpAny_of_eq (a := ((.ref l : Value), [(.str "append" u : Value)])) (by first | rfl | kernel_rfl) ?_)
  dsimp only
  refine wpAny_bind (wpAny_of_eq (a := ("append" : PySem.Str)) (by first | rfl | kernel_rfl) ?_)
  refine wpAny_bind (wpAny_typeOf hT ?_)
  refine wpAny_bind ?_
  unfold find
  refine wpAny_bind (wpAny_of_eq FF.look_append ?_)
  refine wpAny_bind (wpAny_specialOf hM FF.slot_md_get.lookup ?_)
  refine wpAny_bind ?_
  unfold dataDescriptor? takesStores
  refine wpAny_bind (wpAny_bind (wpAny_specialOf hM FF.md_set ?_))
  rw [if_neg (by decide)]
  refine wpAny_bind (wpAny_specialOf hM FF.md_del ?_)
  refine wpAny_pure ?_
  rw [if_neg (by decide)]
  refine wpAny_pure ?_
  dsimp only
  unfold ownThenClass inOwnDict
  refine wpAny_bind (wpAny_bind ?_)
  unfold ObjectAttr.ownDict loadHead
  refine wpAny_bind (wpAny_loadPart hl ?_)
  unfold instanceDict
  refine wpAny_bind (wpAny_loadPart hl ?_)
  show wpAny _ _ (pure none) _ _ _
  refine wpAny_pure ?_
  show wpAny _ _ (pure none) _ _ _
  refine wpAny_pure ?_
  dsimp only
  unfold copiedAttributeGuard
  refine wpAny_bind ?_
  rw [if_neg (by decide +kernel)]
  refine wpAny_pure ?_
  unfold byTheClass
  refine wpAny_bind (wpAny_rule (wpAny_pure ?_))
  dsimp only
  unfold bindTo
  show wpAny _ _ (holding [.builtin "list.append"] (call (.builtin "method_descriptor.__get__") [.builtin "list.append", .ref l, .type "list"]) >>= fun v => ret v) _ _ _
  refine wpAny_bind (wpAny_holding (wpAny_call_entry FF.slot_md_get hM FF.entry_md_get (wp_md_get hl ⟨_, rfl, ?_⟩) (FF.args_md_get _ _ _)))
  exact wpAny_pure hq
theorem getAttr_append {Q : Value → Shared → Prop} {ex : Bool} (hl : h.get? l = some (listOf items n)) (hq : Q (.ref h.objs.size) ⟨h.push (appObj l), g, d, t + 1, os⟩) :
    wpAny (model prog w) A (getAttr (.ref l) "append" ex) Q E ⟨h, g, d, t, os⟩ := by
  have hT : ∀ t', (⟨h, g, d, t', os⟩ : Shared).TypeIs (.ref l) "list" := fun _ => ⟨_, hl, rfl⟩
  unfold getAttr getAttrBy
  refine wpAny_bind (wpAny_mkText (wpAny_holding (wpAny_bind (wpAny_typeOf (hT _) (wpAny_bind (wpAny_of_eq FF.slot_list_ga.lookup ?_))))))
  show wpAny _ _ (getAttrByItsOwn (.ref l) (.str "append" t) (.type "list") (.builtin "list.__getattribute__") true ex) _ _ _
  unfold getAttrByItsOwn hookBefore callGetattribute boundAndCalled
  refine wpAny_bind (wpAny_of_eq (show (if onTheHeap (.type "list") then typeLookup (.type "list") "__getattr__" else pure none) = pure none from rfl) ?_)
  refine wpAny_bind (wpAny_attempt (wpAny_holding ?_))
  have e1 : (ex && onTheHeap (.builtin "list.__getattribute__")) = false := by cases ex <;> rfl
  rw [e1]
  show wpAny _ _ (bindSpecial (.builtin "list.__getattribute__") (.ref l) >>= _) _ _ _
  refine wpAny_bind (wpAny_of_eq (FF.slot_list_ga.bind _) ?_)
  refine wpAny_call_entry FF.slot_list_ga (hT _) FF.entry_list_ga (wp_list_ga hl ⟨_, rfl, ?_⟩) (FF.args_list_ga _ _)
  exact wpAny_pure hq
theorem wp_check_append {l : Addr} {v : Value} {Q : Unit → Shared → Prop} {s : Shared} (hlo : s.heap.get? l = some (listOf items n)) (hq : Q () s) : wpAny (model prog w) A (checkBoundCall "list.append" ⟨[.ref l, v], []⟩) Q E s := by
  have hT : s.TypeIs (.ref l) "list" := ⟨_, hlo, rfl⟩
  unfold checkBoundCall
  rw [FF.sig_append, FF.kind_append]
  dsimp only
  rw [if_neg (by decide)]
  refine wpAny_bind ?_
  unfold isInstance
  refine wpAny_bind (wpAny_typeOf hT (wpAny_of_eq FF.list_not_module ?_))
  rw [if_neg (by decide +kernel)]
  refine wpAny_bind ?_
  unfold isType loadHead
  refine wpAny_bind (wpAny_loadPart hlo ?_)
  refine wpAny_pure ?_
  show wpAny _ _ (do let cls ← typeOf (.ref l); _) _ _ _
  refine wpAny_bind (wpAny_typeOf hT ?_)
  dsimp only
  exact wpAny_of_eq (FF.check_append _ _) hq
theorem call_append_bound {q : Addr} {v : Value} {s : Shared} {Q : Value → Shared → Prop} {its : Array Value} (hqo : s.heap.get? q = some (appObj l)) (ho : s.heap.get? l = some (listOf its n)) (hsz : its.size ≤ sizeLine)
    (hq : ∀ h', Heap.SameBut l s.heap h' → h'.get? l = some (listOf (its.push v) (n + 1)) → Q .none { s with heap := h' }) :
    wpAny (model prog w) A (call (.ref q) [v]) Q E s := by
  refine wpAny_call (codeAny_of_tree ?_)
  show wpAny _ _ (callAny (.ref q) _) _ _ _
  unfold callAny
  refine wpAny_bind (wpAny_load hqo ?_)
  show wpAny _ _ (do checkBoundCall "list.append" ⟨[.ref l, v], []⟩; again (.builtin "list.append" ⟨[.ref l, v], []⟩)) _ _ _
  refine wpAny_bind (wp_check_append ho ?_)
  refine wpAny_pure ⟨plainId_quiet slot_list_append.plain _, codeAny_builtin entry_list_append ?_⟩
  show wpAny _ _ (updateSeq l (·.push v) >>= fun _ => ret .none) _ _ s
  refine wpAny_bind ?_
  refine wpAny_updateSeq ho rfl (wpAny_pure (hq _ (Heap.SameBut.update ..) ?_))
  rw [Heap.get?_update_self _ ho (by rw [show (listOf its n).mapSeq (·.push v) = _ from mapSeq_push _ _ _ _ _]; rfl), show (listOf its n).mapSeq (·.push v) = _ from mapSeq_push _ _ _ _ _]
end
section
variable {prog : Program} {w : World} {A : Around} {E : Value → Shared → Prop} {s : Shared} {h₀ : Heap} {L l q : Addr} {m : Str → Option Value} {news news' : List (Addr × Obj)} {its : Array Value} {n : Nat} {Q : Value → Shared → Prop}
theorem getAttr_append_N {ex : Bool} (F : Fr h₀ L s.heap m) (N : News h₀ L s.heap news) (hl : (l, listOf its n) ∈ news)
    (h : ∀ q h' k, Fr h₀ L h' m → News h₀ L h' ((q, appObj l) :: news) → (∀ p ∈ news, p.1 < q) → Q (.ref q) { s with heap := h', toks := k }) : wpAny (model prog w) A (getAttr (.ref l) "append" ex) Q E s := by
  obtain ⟨hh, g, d, t, os⟩ := s
  exact getAttr_append (N _ hl).1 (h hh.objs.size _ _ (F.push _) (N.push F _) fun p hp => Heap.lt_size (N p hp).1)
theorem call_append_N {v : Value} (F : Fr h₀ L s.heap m) (N : News h₀ L s.heap news) (hq : (q, appObj l) ∈ news) (U : Upd l (listOf its n) (listOf (its.push v) (n + 1)) news news') (hsz : its.size ≤ sizeLine)
    (h : ∀ h', Fr h₀ L h' m → News h₀ L h' news' → Q .none { s with heap := h' }) : wpAny (model prog w) A (call (.ref q) [v]) Q E s := by
  have hqo := (N _ hq).1
  obtain ⟨pre, post, rfl, rfl, a, b⟩ := U.split
  have z := N (l, listOf its n) (List.mem_append.mpr (.inr (.head _)))
  exact call_append_bound hqo z.1 hsz fun h' hs ho' => h h' (F.change hs z.2.1 z.2.2) (news_set N a b hs ho')
end
def AppP (q l : Addr) (h : Heap) : Prop := h.get? q = some (appObj l)
theorem appP {h₀ : Heap} {L q l : Addr} {h : Heap} {news : List (Addr × Obj)} (N : News h₀ L h news) (hq : (q, appObj l) ∈ news) : AppP q l h := (N _ hq).1
theorem keeps_A {M : Model} {q l : Addr} (h : Heap) (X : AppP q l h) : ∃ k, (k = Keeper.frame ∨ k = Keeper.machine ∨ k = Keeper.boundFrame) ∧ Looks M h (keeperOf (.ref q)) k :=
  ⟨.machine, .inr (.inl rfl), (Looks.ld (part := none) X).andThen .now⟩
theorem callWith_A {M : Model} {A : Around} {E : Value → Shared → Prop} {s : Shared} {env : Env} {pos : Pos} {first : List Value} {Q : Value → Shared → Prop} {h₀ : Heap} {L : Addr} {news : List (Addr × Obj)} {q l : Addr} {e : Expr} {rest : List Expr}
    (_N : News h₀ L s.heap news) (_q : (q, appObj l) ∈ news) (h : wpAny M A (spliced (backTo pos (starEach (e :: rest) env))) (fun vs s₁ => AppP q l s₁.heap ∧ wpAny M A (call (.ref q) (first ++ vs)) Q E s₁) E s)
    (he : starEach (e :: rest) env = (false, eval e env) :: starEach rest env := by rfl) (hplain : (backTo pos (starEach rest env)).any (·.1) = false := by rfl) :
    wpAny M A (callWith pos (.ref q) first (backTo pos (starEach (e :: rest) env)) []) Q E s := by
  rw [he] at h ⊢
  exact callWith_of (by show ((false || (backTo pos (starEach rest env)).any (·.1)) || false) = false; rw [hplain]; rfl) keeps_A (evalArgs_plain h)
end Mine
-- text E1
namespace Mine
open PySem.Calls PySem.Spec
set_option maxRecDepth 100000
set_option maxHeartbeats 8000000
section
variable {w : World} {p : Program} {loose : List Str} {mean : ExcName → Option Value} {mg mb : Str → Option Value}
section
local macro_rules | `(tactic| walk_at $k:str) => do
  if ["exec While Compare cons nil", "pyIter ref", "KswEnd", "call ref", "Turn", "call builtin:str.translate", "call builtin:str.join"].contains k.getString then `(tactic| refine Stop.out ?_) else Lean.Macro.throwUnsupported
local macro_rules | `(tactic| walk_at "call ref") => `(tactic| ((k_dflt (refine' call_append_N ?k1 ?k2 ?k3 ?k4 ?z ?_; (case k1 => k_asm); (case k2 => k_asm); (case k3 => k_mem); (case k4 => k_upd); (case z => size_fits))); intro h' F' N'; (try rw [push_strs] at N'); (try dsimp only)))
local macro_rules | `(tactic| walk_at "getMethod str") => `(tactic| with_reducible refine gm_translate ?_)
local macro_rules | `(tactic| walk_at "getAttr ref") => `(tactic| ((k_dflt (refine' getAttr_append_N ?k1 ?k2 ?k3 ?_; (case k1 => k_asm); (case k2 => k_asm); (case k3 => k_mem))); intro q' h' k' F' N' l1; (try k_lt l1); (try dsimp only)))
local macro_rules | `(tactic| walk_at "callWith ref") => `(tactic| (k_here; k_dflt (refine' callWith_A ?k1 ?k2 ?_; (case k1 => k_asm); (case k2 => k_mem); k_whole)))
local macro_rules | `(tactic| walk_at "And") => `(tactic| ((with_reducible show AppP _ _ _ ∧ _); (k_dflt (refine' And.intro (appP ?k1 ?k2) ?_; (case k1 => k_asm); (case k2 => k_mem))); try dsimp only [List.nil_append, List.cons_append]))
local macro_rules | `(tactic| walk_at "storeName") => `(tactic| (dsimp only; walk_at "storeName"))
local macro_rules | `(tactic| walk_at "mine ksw") => `(tactic| (
  (refine ksw_end (_, _, _, _) (by assumption) (by assumption) (by (dsimp only; exact fun _ hp => hp)) trivial (by (refine List.forall_mem_cons.mpr ⟨?_, List.forall_mem_nil _⟩; (dsimp only; exact rfl))) (by ksw_same) ?hp ?hm)))
local macro_rules | `(tactic| walk_at "mine same") => `(tactic| (intro z h1 h2 h3; clear h2; (simp only [List.contains_cons, List.contains_nil, Bool.or_false, Bool.or_eq_false_iff, beq_eq_false_iff_ne, ne_eq] at h3); simp [h1, h3]))
local macro_rules | `(tactic| walk_at "mine turn") => `(tactic| (
  (refine turn_next (_, _) (by assumption) (by assumption) (by (dsimp only; k_allIn)) (by (intro p hp; k_ownIn)) (by (simp only [List.map_cons, List.map_nil]; assumption)) (List.forall_mem_nil _) (by walk_at "mine same") ?hp)))
theorem encode_cl (x y : Str) (m : Int) (t u v : Tok) :
   Cl PySem.Challenge.rw_ny0161_01.row.prog w (Mine.hdK w.params) p loose mean mg mb 57 1 (fun _ => x.length ≠ 0 ∧ x.length ≤ 10000 ∧ y.length ≤ 10 ∧ 4 ≤ m ∧ m ≤ 100 ∧ (∀ c ∈ ch x, c < 256)) [.str x t, .int m u, .str y v] (fun v nw => nw = [] ∧ ∃ z t', v = .str z t' ∧ ch z = encF (m - 1).toNat (ch y) (ch x)) := by
  k_fill
  refine Cl.intro (binds := [(Str.ofString "body", .str x t), (Str.ofString "maxlinelen", .int m u), (Str.ofString "eol", .str y v)]) (by k_is) (by k_is) (fun s X => binds_K X rfl (by k_is) rfl rfl rfl) (locs rfl) rfl rfl rfl (by decide) ?_
  intro dp un gd outer A₀ base g L' s B F N X T hpre hdp hun
  obtain ⟨hx0, hx, hy, hm1, hm2, hc⟩ := hpre
  try k_fold
  k_steps
  · unfold Stop
    obtain ⟨items, hl46, hit⟩ := isList46 X
    have hfl := flatC_len (ch x)
    rw [ch_len] at hfl
    have hflat : ((ch x).flatMap encC).length ≤ 30000 := by omega
    have hne : ((ch x).flatMap encC).length ≠ 0 := by omega
    refine call_translate encC (stays_list (by assumption : Fr _ _ _ _).keep hl46) hx0 hc (by omega) hit ?_
    intro k9 t9
    have hz : (⟨((ch x).flatMap encC).toArray⟩ : Str).length = ((ch x).flatMap encC).length := by simp [PySem.Str.length]
    generalize hzz : (⟨((ch x).flatMap encC).toArray⟩ : Str) = z at hz ⊢
    have hz1 : z.length ≤ 30000 := by omega
    k_steps
    unfold Stop
    rename_i tsb _ hsb _ _ l' _ _ _ _ q' _ _ hlq hA FA NA ls hB kB hls hsa hshort hIs FB NB
    have hla : @LT.lt Nat _ q' hA.objs.size := Heap.lt_size (NA _ (.head _)).1
    have hlb : @LT.lt Nat _ l' hA.objs.size := Heap.lt_size (NA _ (.tail _ (.head _))).1
    rw [hls] at hshort
    dsimp only at NB hIs
    clear hIs NA FA
    generalize hA.objs.size = la at hla hlb NB ⊢
    have hm3 : (m - 1).toNat + 1 = m.toNat := by omega
    refine' for_led (fun c : List (Str × Tok) × Nat => [(la, listOf (strValues ls).toArray 0), (q', appObj l'), (l', listOf (strValues c.1).toArray c.2)]) (fun _ => []) ["start", "laststart", "stop", "room", "q"]
      (fun i c => c.1.map (fun p => ch p.1) = (((Txt.lines z).take i).map fun a => encLine (m - 1).toNat (ch y) (ch a)).flatten) ([], 0) rfl (fun _ => List.Mem.head _) FB NB (List.forall_mem_nil _) rfl ?turn ?done
    case turn =>
      intro i v c u' h tk own hv hoff hP F' N'
      obtain ⟨a, ta, rfl, ha⟩ := strs_at hv
      dsimp only [kstB] at F' N' hoff
      simp only [List.map_cons, List.map_nil] at hoff
      rw [hls] at ha
      have hal : a.length ≤ 30000 := Nat.le_trans (hshort a (List.mem_of_getElem? ha)) hz1
      have hcl : c.1.length ≤ 30001 := by
        have h1 := congrArg List.length hP
        have h2 := pre_len (m - 1).toNat (ch y) z i
        rw [List.length_map] at h1
        omega
      simp only [List.cons_append, List.nil_append] at N'
      k_steps
      unfold Stop
      refine' ksw_while (fun d : Int × Tok × List (Str × Tok) × Nat => (la, listOf (strValues ls).toArray 0) :: (q', appObj l') :: (l', listOf (strValues d.2.2.1).toArray d.2.2.2) :: own)
        (fun d => [(Str.ofString "start", Value.int d.1 d.2.1)]) (fun _ => True) ["start", "stop"]
        (fun d => ∃ k0 : Nat, d.1 = k0 ∧ k0 ≤ (ch a).length ∧ chp d.2.2.1 ++ (encW (m - 1).toNat ((ch a).drop k0)).1 = chp c.1 ++ (encW (m - 1).toNat (ch a)).1 ∧ (encW (m - 1).toNat ((ch a).drop k0)).2 = (encW (m - 1).toNat (ch a)).2)
        (fun d => (ch a).length - d.1.toNat) (0, ?t1, c.1, c.2) (by assumption) (by assumption) trivial ?hk ?hp ?turn
      case hk => (refine List.forall_mem_cons.mpr ⟨?_, List.forall_mem_nil _⟩; dsimp only; exact rfl)
      case hp => exact ⟨0, rfl, Nat.zero_le _, rfl, rfl⟩
      case turn =>
        intro d u2 h2 tk2 _ hd F2 N2
        obtain ⟨i1, i2, pcs, np⟩ := d
        dsimp only [kstB] at hd F2 N2
        obtain ⟨k0, rfl, hk0, hd1, hd2⟩ := hd
        have hkl := ch_len a
        have hpl : pcs.length ≤ 70000 := by
          have h1 := congrArg List.length hd1
          have h2 := encW_len (m - 1).toNat (ch a)
          simp only [List.length_append, chp, List.length_map] at h1
          omega
        have hpl2 : (strValues pcs).toArray.size ≤ 70000 := by simp [strValues]; exact hpl
        k_steps
        all_goals unfold Stop
        · walk_at "mine ksw"
          case hp => exact ew1 hm1 (by with_reducible assumption) (by with_reducible assumption) hd1 hd2
          case hm => (dsimp only; omega)
        · walk_at "mine ksw"
          case hp => exact ew2 hm1 (by with_reducible assumption) (by with_reducible assumption) (by with_reducible assumption) hd1 hd2
          case hm => (dsimp only; omega)
        · walk_at "mine ksw"
          case hp => exact ew3 hm1 (by with_reducible assumption) (by with_reducible assumption) (by with_reducible assumption) hd1 hd2
          case hm => (dsimp only; omega)
        · obtain ⟨g1, g2, g3⟩ := ew0 (by with_reducible assumption) hm1 hk0 hd1 hd2
          walk_at "mine turn"
          exact line_end hP ha g1 (end_plain1 hk0 g2 (by with_reducible assumption) (by with_reducible assumption))
        · obtain ⟨g1, g2, g3⟩ := ew0 (by with_reducible assumption) hm1 hk0 hd1 hd2
          have ha0 : (a.length : Int) ≠ 0 := by with_reducible assumption
          have hb := last_blank ha0 (by with_reducible assumption)
          rw [item_last (by omega)]
          refine (quote_cl _ _).use B (by k_asm) X (by k_asm) T rfl (by rw [← hkl]; omega) (by omega) (by omega) ?_
          rintro v9 nw h9 tk9 ⟨rfl, t9', rfl⟩ F9 N9 _ _
          rw [List.nil_append] at N9
          have hone : (⟨#[61, hexDig ((ch a).getD (a.length - 1) 0 / 16), hexDig ((ch a).getD (a.length - 1) 0 % 16)]⟩ : Str).length ≤ 3 := Nat.le_refl _
          dsimp only
          k_steps
          unfold Stop
          walk_at "mine turn"
          exact line_end hP ha g1 (end_3 hk0 g2 ha0 hm1 hb (by with_reducible assumption) rfl)
        · obtain ⟨g1, g2, g3⟩ := ew0 (by with_reducible assumption) hm1 hk0 hd1 hd2
          have ha0 : (a.length : Int) ≠ 0 := by with_reducible assumption
          have hb := last_blank ha0 (by with_reducible assumption)
          walk_at "mine turn"
          exact line_end hP ha g1 (end_2 hk0 g2 ha0 hm1 hb (by with_reducible assumption))
        · obtain ⟨g1, g2, g3⟩ := ew0 (by with_reducible assumption) hm1 hk0 hd1 hd2
          have ha0 : (a.length : Int) ≠ 0 := by with_reducible assumption
          have hb := last_blank ha0 (by with_reducible assumption)
          rw [item_last (by omega)]
          refine (quote_cl _ _).use B (by k_asm) X (by k_asm) T rfl (by rw [← hkl]; omega) (by omega) (by omega) ?_
          rintro v9 nw h9 tk9 ⟨rfl, t9', rfl⟩ F9 N9 _ _
          rw [List.nil_append] at N9
          have hone : (⟨#[61, hexDig ((ch a).getD (a.length - 1) 0 / 16), hexDig ((ch a).getD (a.length - 1) 0 % 16)]⟩ : Str).length ≤ 3 := Nat.le_refl _
          dsimp only
          k_steps
          unfold Stop
          walk_at "mine turn"
          exact line_end hP ha g1 (end_1 hk0 g2 ha0 hm1 hb (by with_reducible assumption) (by with_reducible assumption) (by with_reducible assumption) rfl)
        · obtain ⟨g1, g2, g3⟩ := ew0 (by with_reducible assumption) hm1 hk0 hd1 hd2
          walk_at "mine turn"
          exact line_end hP ha g1 (end_plain0 hk0 g2 (by with_reducible assumption))
    case done =>
      intro c u2 h2 tk2 hP F2 N2
      dsimp only [kstB] at F2 N2
      have hlen : (strValues ls).length = (Txt.lines z).length := by rw [← hls]; simp [strValues]
      rw [hlen, List.take_length] at hP
      have hcl : c.1.length ≤ 30001 := by
        have h1 := congrArg List.length hP
        have h2 := pre_len (m - 1).toNat (ch y) z (Txt.lines z).length
        rw [List.take_length] at h2
        rw [List.length_map] at h1
        omega
      have hcl2 : (strValues c.1).toArray.size ≤ 30001 := by simp [strValues]; exact hcl
      have hpc : ∀ p ∈ chp c.1, p.length ≤ 200 := by
        intro p hp
        rw [show chp c.1 = _ from hP] at hp
        have := pieces_len (m - 1).toNat (ch y) (by omega) (Txt.lines z) p hp
        rw [ch_len] at this
        omega
      have hz0 : z.length ≠ 0 := by omega
      k_steps
      all_goals unfold Stop
      · refine call_join_N (by k_asm) (by k_mem) (by omega) hpc hy ?_
        intro z9 t9 k9 h9
        refine ⟨_, _, _, _, rfl, ⟨rfl, _, _, rfl, ?_⟩, by k_asm, News.nil⟩
        rw [h9]
        exact encF_no hzz hz0 hP (by with_reducible assumption)
      · refine call_join_N (by k_asm) (by k_mem) (by simp only [List.length_append, List.length_cons, List.length_nil]; omega) ?_ hy ?_
        · intro p hp
          simp only [chp, List.map_append, List.mem_append, List.map_cons, List.map_nil, List.mem_singleton] at hp
          rcases hp with hp | rfl
          · exact hpc p hp
          · have e1 : ch (Str.ofString "") = [] := by decide +kernel
            rw [e1]; exact Nat.zero_le _
        · intro z9 t9 k9 h9
          refine ⟨_, _, _, _, rfl, ⟨rfl, _, _, rfl, ?_⟩, by k_asm, News.nil⟩
          rw [h9]
          exact encF_yes hzz hz0 hP (by with_reducible assumption)
  · exfalso; omega
end
end
end Mine
-- text NX
namespace Mine
open PySem.Calls PySem.Builtin
set_option maxRecDepth 100000
def itObj (l : Addr) (i : Nat) : Obj := { cls := .type "list_iterator", data := .fields #[.ref l, .int i 0] }
def itEnd (i : Nat) : Obj := { cls := .type "list_iterator", data := .fields #[.none, .int i 0] }
section
variable {prog : Program} {w : World} {A : Around} {E : Value → Shared → Prop} {s : Shared} {it l : Addr} {items : Array Value} {i n : Nat} {Q : Value → Shared → Prop}
theorem wp_special_item {x : Value} {Q : Option Value → Shared → Prop} (ho : s.heap.get? it = some (itObj l i)) (hl : s.heap.get? l = some (listOf items n)) (hx : items[i]? = some x)
    (hQ : ∀ h', Heap.SameBut it s.heap h' → h'.get? it = some (itObj l (i + 1)) → Q (some x) { s with heap := h' }) :
    wpAny (model prog w) A (callSpecial? (.ref it) (PySem.Str.ofString "__next__")) Q E s := by
  have hT : s.TypeIs (.ref it) "list_iterator" := ⟨_, ho, rfl⟩
  refine wpAny_callSpecial?_slot (name := PySem.Str.ofString "__next__") hT slot_listiter_next (wpAny_call_entry slot_listiter_next hT entry_listiter_next ?_ (args_listiter_next _))
  show wpAny _ _ (field (.ref it) 0 >>= _) _ _ s
  refine wpAny_bind (wpAny_field ho rfl (x := .ref l) rfl ?_)
  show wpAny _ _ (if (Value.ref l == Value.none) = true then _ else _) _ _ s
  rw [if_neg (show ¬ ((Value.ref l == Value.none) = true) from Bool.false_ne_true)]
  show wpAny _ _ (field (.ref it) 1 >>= _) _ _ s
  refine wpAny_bind (wpAny_field ho rfl (x := .int i 0) rfl ?_)
  show wpAny _ _ (seqItems? (.ref l) >>= _) _ _ s
  refine wpAny_bind (wpAny_seqItems hl rfl ?_)
  simp only [Int.toNat_natCast, hx]
  refine wpAny_bind (wpAny_setField ho rfl (by simp) (wpAny_pure ⟨x, rfl, hQ _ (Heap.SameBut.update ..) ?_⟩))
  exact Heap.get?_update_self _ ho (Obj.isFreed_of_fields (Obj.data_mapFields rfl _))
theorem wp_special_end {Q : Option Value → Shared → Prop} (hh : A.handled = none) (ho : s.heap.get? it = some (itObj l i)) (hl : s.heap.get? l = some (listOf items n)) (hx : items[i]? = none)
    (hE : ∀ h₁ h' e, Heap.SameBut it s.heap h₁ → h₁.get? it = some (itEnd i) → Heap.NewExc h₁ h' e "StopIteration" → E (.ref e) { s with heap := h' }) :
    wpAny (model prog w) A (callSpecial? (.ref it) (PySem.Str.ofString "__next__")) Q E s := by
  have hT : s.TypeIs (.ref it) "list_iterator" := ⟨_, ho, rfl⟩
  refine wpAny_callSpecial?_slot (name := PySem.Str.ofString "__next__") hT slot_listiter_next (wpAny_call_entry slot_listiter_next hT entry_listiter_next ?_ (args_listiter_next _))
  show wpAny _ _ (field (.ref it) 0 >>= _) _ _ s
  refine wpAny_bind (wpAny_field ho rfl (x := .ref l) rfl ?_)
  show wpAny _ _ (if (Value.ref l == Value.none) = true then _ else _) _ _ s
  rw [if_neg (show ¬ ((Value.ref l == Value.none) = true) from Bool.false_ne_true)]
  show wpAny _ _ (field (.ref it) 1 >>= _) _ _ s
  refine wpAny_bind (wpAny_field ho rfl (x := .int i 0) rfl ?_)
  show wpAny _ _ (seqItems? (.ref l) >>= _) _ _ s
  refine wpAny_bind (wpAny_seqItems hl rfl ?_)
  simp only [Int.toNat_natCast, hx]
  refine wpAny_bind (wpAny_rule (wpAny_bind (wpAny_setField ho rfl (by simp) ?_)))
  show wpAny _ _ (newExc (.type "StopIteration") [] >>= _) _ _ _
  refine wpAny_bind ?_
  simp only [newExc, newTuple]
  refine wpAny_bind (wpAny_newObj_type ?_ (by size_fits))
  refine wpAny_bind (m := firstArgMember _ _) (wpAny_of_eq (a := Value.none) (by first | rfl | (simp only [firstArgMember]; rfl)) ?_)
  refine wpAny_newObj_type ?_ (by size_fits)
  simp only [raiseNew]
  refine wpAny_bind (wpAny_handled ?_)
  rw [show A.in1.handled = none from hh]
  refine wpAny_bind (wpAny_pure (wpAny_throw ?_))
  refine hE _ _ _ (Heap.SameBut.update ..) (Heap.get?_update_self _ ho (Obj.isFreed_of_fields (Obj.data_mapFields rfl _))) ⟨fun b o e => Heap.get?_push_of_some _ (Heap.get?_push_of_some _ e), ?_, ⟨_, _, Heap.get?_push_size _ rfl, rfl, rfl⟩⟩
  refine Option.eq_none_iff_forall_ne_some.mpr fun o e => ?_
  have := Heap.lt_size e
  simp at this
  exact absurd this (Nat.not_lt.mpr (Nat.le_succ _))
theorem call_next {v : Value} (hT : s.TypeIs v "list_iterator") (h : wpAny (model prog w) A.in1 (callSpecial? v (PySem.Str.ofString "__next__")) (fun r s' => ∃ x, r = some x ∧ Q x s') E s) :
    wpAny (model prog w) A (call (.builtin "next") [v]) Q E s := by
  refine call_function_entry (by decide +kernel) (by decide +kernel) kdk_entry_next (kdk_args_next _) ?_
  unfold Builtin.«next»
  refine wpAny_bind (m := someArgs "next" 1 2 _) (wpAny_of_eq (a := [v]) (by first | rfl | kernel_rfl!) ?_)
  refine wpAny_bind (wpAny_specialOf hT slot_listiter_next.lookup ?_)
  rw [if_neg (by simp)]
  refine wpAny_bind (wpAny_mono h (fun r s' q => ?_) fun _ _ q => q)
  obtain ⟨x, rfl, q⟩ := q
  exact wpAny_pure ⟨_, rfl, q⟩
end
section
variable {prog : Program} {w : World} {A : Around} {E : Value → Shared → Prop} {s : Shared} {h₀ : Heap} {L l it : Addr} {m : PySem.Str → Option Value} {news news' : List (Addr × Obj)} {its : Array Value} {n i : Nat} {Q : Value → Shared → Prop}
theorem iter_N (F : Fr h₀ L s.heap m) (N : News h₀ L s.heap news) (hl : (l, listOf its n) ∈ news)
    (h : ∀ q h', Fr h₀ L h' m → News h₀ L h' ((q, itObj l 0) :: news) → (∀ p ∈ news, p.1 < q) → Q (.ref q) { s with heap := h' }) : wpAny (model prog w) A (call (.builtin "iter") [.ref l]) Q E s := by
  refine call_function_entry (by decide +kernel) (by decide +kernel) kdk_entry_iter (kdk_args_iter _) ?_
  unfold Builtin.«iter»
  refine wpAny_bind (m := someArgs "iter" 1 2 _) (wpAny_of_eq (a := [Value.ref l]) (by first | rfl | kernel_rfl!) ?_)
  show wpAny _ _ (pyIter (.ref l) >>= _) _ _ _
  refine wpAny_bind (wpAny_pyIter_list (items := its) ⟨_, (N _ hl).1, rfl, n, rfl⟩ ?_)
  exact wpAny_pure ⟨_, rfl, h _ _ (F.push _) (N.push F _) fun p hp => Heap.lt_size (N p hp).1⟩
theorem next_item_N {x : Value} (F : Fr h₀ L s.heap m) (N : News h₀ L s.heap news) (hl : (l, listOf its n) ∈ news) (U : Upd it (itObj l i) (itObj l (i + 1)) news news') (hx : its[i]? = some x)
    (h : ∀ h', Fr h₀ L h' m → News h₀ L h' news' → Q x { s with heap := h' }) : wpAny (model prog w) A (call (.builtin "next") [.ref it]) Q E s := by
  have hlo := (N _ hl).1
  obtain ⟨pre, post, rfl, rfl, a, b⟩ := U.split
  have z := N (it, itObj l i) (List.mem_append.mpr (.inr (.head _)))
  refine call_next ⟨_, z.1, rfl⟩ (wp_special_item z.1 hlo hx fun h' hs ho' => ⟨x, rfl, h h' (F.change hs z.2.1 z.2.2) (news_set N a b hs ho')⟩)
theorem next_end_N (hh : A.handled = none) (F : Fr h₀ L s.heap m) (N : News h₀ L s.heap news) (hl : (l, listOf its n) ∈ news) (U : Upd it (itObj l i) (itEnd i) news news') (hx : its[i]? = none)
    (h : ∀ h₁ h' e, Fr h₀ L h₁ m → News h₀ L h₁ news' → Heap.NewExc h₁ h' e "StopIteration" → E (.ref e) { s with heap := h' }) : wpAny (model prog w) A (call (.builtin "next") [.ref it]) Q E s := by
  have hlo := (N _ hl).1
  obtain ⟨pre, post, rfl, rfl, a, b⟩ := U.split
  have z := N (it, itObj l i) (List.mem_append.mpr (.inr (.head _)))
  exact call_next ⟨_, z.1, rfl⟩ (wp_special_end hh z.1 hlo hx fun h₁ h' e hs ho' hx' => h h₁ h' e (F.change hs z.2.1 z.2.2) (news_set N a b hs ho') hx')
end
end Mine
-- text B3
namespace Mine
open PySem.Calls PySem.Spec
/-- what a body leaves behind that has caught an exception: a caller's frame may have other slots -/
def BackS (fs : List Addr) (g : Heap) (s₀ : Shared) (Post : Value → List (Addr × Obj) → Prop) (v : Value) (s' : Shared) : Prop :=
  ∃ g' L'' nw m' h' tk', s' = { s₀ with heap := h', toks := tk' } ∧ KtsTurn fs g g' ∧ Post v nw ∧ Fr g' L'' h' m' ∧ News g' L'' h' nw
def ClR (prog : Program) (w : World) (K : Frag) (p : Program) (loose : List Str) (mean : ExcName → Option Value) (mg mb : Str → Option Value) (f : Addr) (lv : Nat) (pre : Heap → Prop) (vs : List Value) (Post : Value → List (Addr × Obj) → Prop) : Prop :=
  ∀ (dp un : Nat) (gd : Option (List Code)) (cn : Str) (cs : Scope) (a : Addr) (ccd : Value) (A₀ : Around) (base h₀ : Heap) (L : Addr) (m : Str → Option Value) (news : List (Addr × Obj)) (s : Shared) (Q E : Value → Shared → Prop),
    Below A₀ base [] h₀ → Fr h₀ L s.heap m → K.In h₀ → News h₀ L s.heap news → Top p loose mean mg mb h₀ → K.In base → Top p loose mean mg mb base → cs.kind = .function → pre s.heap → dp + lv + 1 < recursionLimit → un + 10 * lv + 10 < cLine →
    (∀ v nw h' tk', Post v nw → Fr h₀ L h' m → News h₀ L h' (nw ++ news) → (∀ p ∈ nw, s.heap.get? p.1 = none) → Q v { s with heap := h', toks := tk' }) →
    wpAny (model prog w) (ktrTop dp un gd cn cs L a ccd [] []) (call (.ref f) vs) Q E s
section
variable {prog : Program} {w : World} {K : Frag} {p : Program} {loose : List Str} {mean : ExcName → Option Value} {mg mb : Str → Option Value} {f : Addr} {lv : Nat} {pre : Heap → Prop} {vs : List Value} {Post : Value → List (Addr × Obj) → Prop}
  {name qual : Str} {params : Arguments} {body : List Stmt} {scope : Scope} {dV kV doc pm cdv ct oc : Value} {an od : Option Addr} {osl : Array (Option Value)} {binds : List (Str × Value)}
theorem ClR.intro (ho : K.lookup f = some ⟨oc, od, .func (fnOf name qual params body scope dV kV doc pm an cdv ct), osl⟩) (hcd : codeIn K cdv qual = true)
    (hbind : ∀ s : Shared, K.In s.heap → BindsTo s (fnOf name qual params body scope dV kV doc pm an cdv ct) ⟨vs, []⟩ binds) (hloc : ∀ y ∈ binds, scope.names.lookup y.1 = some .local)
    (hco : scope.isCoroutine = false) (hgen : scope.isGenerator = false) (hk : scope.kind = .function) (hcell : ∀ x ∈ scope.names, x.2 ≠ .cell)
    (h : ∀ (dp un : Nat) (gd : Option (List Code)) (cn : Str) (cs : Scope) (L₀ a : Addr) (ccd : Value) (A₀ : Around) (base g : Heap) (L' : Addr) (s : Shared), Below A₀ base [envOf cn cs L₀ a ccd] g → Fr g L' s.heap (fun y => binds.reverse.lookup y) → News g L' s.heap [] → K.In g → Top p loose mean mg mb g → K.In base → Top p loose mean mg mb base →
      KtsDicts ([envOf cn cs L₀ a ccd].filterMap (·.frame)) g → 1 ≤ dp → 3 ≤ un → pre g → dp + lv < recursionLimit → un + 10 * lv + 7 < cLine →
      wpAny (model prog w) (ktrTop dp un gd qual scope L' f cdv [] [envOf cn cs L₀ a ccd]) (execs body (envOf qual scope L' f cdv))
        (fun fl s' => BackS ([envOf cn cs L₀ a ccd].filterMap (·.frame)) g s Post (match fl with | .ret v => v | _ => .none) s') (fun _ _ => False) s) :
    ClR prog w K p loose mean mg mb f lv pre vs Post := by
  intro dp un gd cn cs a ccd A₀ base h₀ L m news s Q E B F X N T XB TB hck hpre hdp hun hret
  refine wpAny_call ?_
  obtain ⟨oL, es, ep, hLg, hLd, hN, hNs, st, B₂⟩ := kts_enter (A := ktrTop dp un gd cn cs L a ccd [] []) (a := a) (ccd := ccd) B F (News.nil (h₀ := h₀) (L := L) (h := s.heap)) rfl hck
  have Xs := X.keeps F.keep
  refine codeAny_call_def (fd := fnOf name qual params body scope dV kV doc pm an cdv ct) (body := body) (binds := binds) (by show dp < _; omega) (Xs _ _ ho) rfl (T.nolimit.keeps F.keep) (codeRec_of Xs hcd) rfl (hbind s Xs) hcell hloc (fun h₁ hns hk₁ => ?_) hco hgen hk
  have D : KtsDicts ([envOf cn cs L a ccd].filterMap (·.frame)) s.heap := fun b hb => by
    rcases kts_mem hb with rfl | z
    · exact ⟨oL, es, ep, hLg, hLd⟩
    · simp at z
  refine wpAny_mono (h (dp + 1) (un + 3) gd cn cs L a ccd (ktrTop dp un gd cn cs L a ccd [] []) base s.heap s.heap.objs.size { s with heap := h₁, toks := s.toks + binds.length } B₂ ⟨hns, hk₁, Nat.le_refl _⟩ News.nil Xs (T.keeps F.keep) XB TB D (by omega) (by omega) hpre (by omega) (by omega)) (fun fl s' hb => ?_) fun _ _ x => x.elim
  obtain ⟨g', L'', nw, m', h', tk', rfl, T', hP, F', N'⟩ := hb
  have nL₀ : h₀.get? L = none := kts_self F
  obtain ⟨sl, hs⟩ := T'.up hLg
  have kp : ∀ b o, b ≠ L → s.heap.get? b = some o → h'.get? b = some o := fun b o hb e => F'.keep b o (T'.other b o e (fun q => by
    rcases kts_mem q with z | z
    · exact hb z
    · simp at z))
  have fr : ∀ q ∈ nw, s.heap.get? q.1 = none := fun q hq => by
    cases e : s.heap.get? q.1 with
    | none => rfl
    | some o =>
      obtain ⟨sl', hs'⟩ := T'.up e
      have := (N' q hq).2.2
      rw [hs'] at this
      cases this
  refine hret _ nw h' tk' hP ⟨hNs sl _ (F'.keep _ _ hs), fun b o e => kp b o (fun q => by rw [q, nL₀] at e; cases e) (F.keep b o e), F.above⟩ (fun q hq => ?_) fr
  rcases List.mem_append.mp hq with hq | hq
  · refine ⟨(N' q hq).1, fun z => ?_, ?_⟩
    · have := (N' q hq).2.2; rw [z, hs] at this; cases this
    · cases e : h₀.get? q.1 with
      | none => rfl
      | some o => have := fr q hq; rw [F.keep _ _ e] at this; cases this
  · exact ⟨kp _ _ (N q hq).2.1 (N q hq).1, (N q hq).2⟩
theorem caught_top {dp un : Nat} {gd : Option (List Code)} {A₀ : Around} {s' : Shared} {base g g₀ G : Heap} {outer : List Env} {L a e : Addr} {m : Str → Option Value} {name : Str} {scope : Scope} {cd : Value}
  {b₀ : Stmt} {suite : List Stmt} {pos np : Pos} {rest : List ExceptHandler} {Q : Flow → Shared → Prop} {news : List (Addr × Obj)} {KF : Frag} {x : Str} {X T' : String} (h1 : 1 ≤ dp) (h3 : 3 ≤ un)
    (R : RaisedSN base G (envOf name scope L a cd :: outer) e (.type X) news s'.heap) (F : Fr g L G m) (K : Below A₀ base outer g) (hsm : G.UpToSlots s'.heap) (XB : KF.In base) (TB : Top p loose mean mg mb base)
    (D : KtsDicts (outer.filterMap (·.frame)) g) (T0 : KtsTurn (outer.filterMap (·.frame)) g₀ g)
    (ex : nsIn KF mainGlobals x = some none) (hv : bootBuiltins x = some (.type T')) (hn' : x ≠ "__name__")
    (hexc : isSubtype (.type T') (.type "BaseException") = pure true) (hnt : isSubtype (.type ((Manifest.find? T').elim "type" fun y => y.metatype)) (.type "tuple") = pure false) (hsub : isSubtype (.type X) (.type T') = pure true)
    (k : ∀ h' g', KtsTurn (outer.filterMap (·.frame)) g₀ g' → Fr g' L h' m → News g' L h' news → 
      wpAny (model prog w) ((ktrTop dp un gd name scope L a cd [] outer).mark (some (.ref e))) (execs (b₀ :: suite) (envOf name scope L a cd)) Q (fun _ _ => False) { s' with heap := h' })
    (hk : scope.kind = .function := by rfl) (hx : (envOf name scope L a cd).kindOf x = some .globalImplicit := by rfl) (hd : (x == ("__debug__" : Str)) = false := by decide) :
    wpAny (model prog w) (ktrTop dp un gd name scope L a cd [] outer) (noteFrame (.ref e) (envOf name scope L a cd))
      (fun _ s₂ => wpAny (model prog w) (ktrTop dp un gd name scope L a cd [] outer) (setFlight (.ref e) none) (fun _ s₃ =>
        wpAny (model prog w) (ktrTop dp un gd name scope L a cd [] outer) (handleBy (.ref e) (envOf name scope L a cd) (.ExceptHandler (some (.Name x np)) none (b₀ :: suite) pos :: rest)) Q (fun _ _ => False) s₃) (fun _ _ => False) s₂) (fun _ _ => False) s' := by
  obtain ⟨dp, rfl⟩ : ∃ d, dp = d + 1 := ⟨dp - 1, by omega⟩
  obtain ⟨un, rfl⟩ : ∃ d, un = d + 3 := ⟨un - 3, by omega⟩
  exact caught_SN0 (A₀ := { handled := none, depth := dp, frames := some outer, guards := gd, units := un }) R F ⟨rfl, K.stays, K.frames⟩ hsm XB TB D T0 ex hv hn' hexc hnt hsub (fun h' g' T F N _ _ _ _ => k h' g' T F N) hk hx hd
theorem ClR.use (C : ClR prog w K p loose mean mg mb f lv pre vs Post) {dp un : Nat} {gd : Option (List Code)} {cn : Str} {cs : Scope} {a : Addr} {ccd : Value} {A₀ : Around} {base h₀ : Heap} {L : Addr} {m : Str → Option Value} {news : List (Addr × Obj)} {s : Shared} {Q E : Value → Shared → Prop}
    (B : Below A₀ base [] h₀) (F : Fr h₀ L s.heap m) (X : K.In h₀) (N : News h₀ L s.heap news) (T : Top p loose mean mg mb h₀) (XB : K.In base) (TB : Top p loose mean mg mb base) (hk : cs.kind = .function) (hp : pre s.heap) (hd : dp + lv + 1 < recursionLimit) (hu : un + 10 * lv + 10 < cLine)
    (ret : ∀ v nw h' tk', Post v nw → Fr h₀ L h' m → News h₀ L h' (nw ++ news) → (∀ p ∈ nw, s.heap.get? p.1 = none) → Q v { s with heap := h', toks := tk' }) :
    wpAny (model prog w) (ktrTop dp un gd cn cs L a ccd [] []) (call (.ref f) vs) Q E s :=
  C dp un gd cn cs a ccd A₀ base h₀ L m news s Q E B F X N T XB TB hk hp hd hu ret
end
end Mine
-- text B4
namespace Mine
open PySem.Calls PySem.Spec
/-- what a body leaves behind that may change the caller's own objects (news) -/
def BackV (g : Heap) (L' : Addr) (s₀ : Shared) (Post : Value → List (Addr × Obj) → Prop) (v : Value) (s' : Shared) : Prop :=
  ∃ nw m' h' tk', s' = { s₀ with heap := h', toks := tk' } ∧ Post v nw ∧ Fr g L' h' m' ∧ News g L' h' nw
def ClE (prog : Program) (w : World) (K : Frag) (p : Program) (loose : List Str) (mean : ExcName → Option Value) (mg mb : Str → Option Value) (f : Addr) (lv : Nat) (cls : String) (vs : List Value) (news : List (Addr × Obj)) (Post : Value → List (Addr × Obj) → Prop) (PostE : List (Addr × Obj) → Prop) : Prop :=
  ∀ (dp un : Nat) (gd : Option (List Code)) (cn : Str) (cs : Scope) (a : Addr) (ccd : Value) (outer : List Env) (A₀ : Around) (base h₀ : Heap) (L : Addr) (m : Str → Option Value) (s : Shared) (Q E : Value → Shared → Prop),
    Below A₀ base outer h₀ → Fr h₀ L s.heap m → K.In h₀ → News h₀ L s.heap news → Top p loose mean mg mb h₀ → K.In base → Top p loose mean mg mb base → KtsDicts (outer.filterMap (·.frame)) h₀ → cs.kind = .function → dp + lv + 1 < recursionLimit → un + 10 * lv + 10 < cLine →
    (∀ v nw h' tk', Post v nw → Fr h₀ L h' m → News h₀ L h' nw → Q v { s with heap := h', toks := tk' }) →
    (∀ e nw G h' tk', PostE nw → Fr h₀ L G m → RaisedSN base G (envOf cn cs L a ccd :: outer) e (.type cls) nw h' → G.UpToSlots h' → E (.ref e) { s with heap := h', toks := tk' }) →
    wpAny (model prog w) (ktrTop dp un gd cn cs L a ccd [] outer) (call (.ref f) vs) Q E s
section
variable {prog : Program} {w : World} {K : Frag} {p : Program} {loose : List Str} {mean : ExcName → Option Value} {mg mb : Str → Option Value} {f : Addr} {lv : Nat} {cls : String} {vs : List Value} {news : List (Addr × Obj)} {Post : Value → List (Addr × Obj) → Prop} {PostE : List (Addr × Obj) → Prop}
  {name qual : Str} {params : Arguments} {body : List Stmt} {scope : Scope} {dV kV doc pm cdv ct oc : Value} {an od : Option Addr} {osl : Array (Option Value)} {binds : List (Str × Value)}
theorem ClE.intro (ho : K.lookup f = some ⟨oc, od, .func (fnOf name qual params body scope dV kV doc pm an cdv ct), osl⟩) (hcd : codeIn K cdv qual = true)
    (hbind : ∀ s : Shared, K.In s.heap → BindsTo s (fnOf name qual params body scope dV kV doc pm an cdv ct) ⟨vs, []⟩ binds) (hloc : ∀ y ∈ binds, scope.names.lookup y.1 = some .local)
    (hco : scope.isCoroutine = false) (hgen : scope.isGenerator = false) (hk : scope.kind = .function) (hcell : ∀ x ∈ scope.names, x.2 ≠ .cell)
    (h : ∀ (dp un : Nat) (gd : Option (List Code)) (outer : List Env) (A₀ : Around) (base g : Heap) (L' : Addr) (s : Shared) (EX : Value → Shared → Prop), 
      (∀ e nw m' h h' tk', PostE nw → Fr g L' h m' → News g L' h nw → Heap.NewExc h h' e cls → wpAny (model prog w) (ktrTop dp un gd qual scope L' f cdv [] outer) (leaving (envOf qual scope L' f cdv) (.ref e)) (fun _ s'' => EX (.ref e) s'') (fun e' s'' => EX e' s'') { s with heap := h', toks := tk' }) →
      Below A₀ base outer g → Fr g L' s.heap (fun y => binds.reverse.lookup y) → News g L' s.heap news → K.In g → Top p loose mean mg mb g → 
      dp + lv < recursionLimit → un + 10 * lv + 7 < cLine →
      wpAny (model prog w) (ktrTop dp un gd qual scope L' f cdv [] outer) (execs body (envOf qual scope L' f cdv))
        (fun fl s' => BackV g L' s Post (match fl with | .ret v => v | _ => .none) s') (fun e s' => wpAny (model prog w) (ktrTop dp un gd qual scope L' f cdv [] outer) (leaving (envOf qual scope L' f cdv) e) (fun _ s'' => EX e s'') (fun e' s'' => EX e' s'') s') s) :
    ClE prog w K p loose mean mg mb f lv cls vs news Post PostE := by
  intro dp un gd cn cs a ccd outer A₀ base h₀ L m s Q E B F X N T XB TB D hck hdp hun hret hexc
  refine wpAny_call ?_
  have Xs := X.keeps F.keep
  refine code_defS (A := ktrTop dp un gd cn cs L a ccd [] outer) (a := a) (ccd := ccd) B F X N T XB TB D KtsTurn.refl rfl ho hcd (by show dp < _; omega) (hbind s Xs) hloc (fun g L' h₁ FL F₁ N₁ B₁ X₁ T₁ D₁ => ?_) hck hco hgen hk hcell
  refine wpAny_mono (h (dp + 1) (un + 3) gd (envOf cn cs L a ccd :: outer) (ktrTop dp un gd cn cs L a ccd [] outer) base g L' { s with heap := h₁, toks := s.toks + binds.length } E (fun e nw m' h h' tk' hP F' N' hx => ?_) B₁ F₁ N₁ X₁ T₁ (by omega) (by omega)) (fun fl s' hb => ?_) fun e s' hb => hb
  · refine leave_newS (A := ktrTop dp un gd cn cs L a ccd [] outer) B₁ hx F' N' (fun h'' R _ U => ?_) hk
    exact hexc e nw g h'' tk' hP FL R U
  · obtain ⟨nw, m', h', tk', rfl, hP, F', N'⟩ := hb
    exact .inl ⟨L', m', nw, F', N', fun kF kN => hret _ nw h' tk' hP kF kN⟩
theorem ClE.use (C : ClE prog w K p loose mean mg mb f lv cls vs news Post PostE) {dp un : Nat} {gd : Option (List Code)} {cn : Str} {cs : Scope} {a : Addr} {ccd : Value} {outer : List Env} {A₀ : Around} {base h₀ : Heap} {L : Addr} {m : Str → Option Value} {s : Shared} {Q E : Value → Shared → Prop}
    (B : Below A₀ base outer h₀) (F : Fr h₀ L s.heap m) (X : K.In h₀) (N : News h₀ L s.heap news) (T : Top p loose mean mg mb h₀) (XB : K.In base) (TB : Top p loose mean mg mb base) (D : KtsDicts (outer.filterMap (·.frame)) h₀) (hk : cs.kind = .function) (hd : dp + lv + 1 < recursionLimit) (hu : un + 10 * lv + 10 < cLine)
    (ret : ∀ v nw h' tk', Post v nw → Fr h₀ L h' m → News h₀ L h' nw → Q v { s with heap := h', toks := tk' })
    (exc : ∀ e nw G h' tk', PostE nw → Fr h₀ L G m → RaisedSN base G (envOf cn cs L a ccd :: outer) e (.type cls) nw h' → G.UpToSlots h' → E (.ref e) { s with heap := h', toks := tk' }) :
    wpAny (model prog w) (ktrTop dp un gd cn cs L a ccd [] outer) (call (.ref f) vs) Q E s :=
  C dp un gd cn cs a ccd outer A₀ base h₀ L m s Q E B F X N T XB TB D hk hd hu ret exc
end
end Mine
-- text R0
namespace Mine
open PySem.Calls PySem.Spec
section
variable {prog : Program} {w : World} {A : Around} {E : Value → Shared → Prop} {s : Shared} {h₀ : Heap} {L : Addr} {m : Str → Option Value} {news : List (Addr × Obj)} {env : Env}
theorem ints_of_signs {y : Str} {g : Nat → Int} : ∀ {vs ys : List Value} {cs : List Nat}, vs.length = cs.length → (∀ (j : Nat) (v : Value), vs[j]? = some v → ∃ c u, cs[j]? = some c ∧ v = Value.str ⟨#[c]⟩ u) →
    Paired (fun v r => ∀ c u, v = Value.str ⟨#[c]⟩ u → ∃ t, r = Value.int (g c) t) vs ys → IntsAre ys (cs.map g)
  | [], _, [], _, _, .nil => .nil
  | [], _, _ :: _, h, _, _ => by cases h
  | _ :: _, _, [], h, _, _ => by cases h
  | v :: vs, _, c :: cs, hl, hP, .cons hF ht => by
    obtain ⟨c', u, hc, rfl⟩ := hP 0 v rfl
    cases hc
    obtain ⟨t, rfl⟩ := hF _ _ rfl
    exact .cons _ _ (ints_of_signs (y := y) (by simpa using hl) (fun j v hv => by simpa using hP (j + 1) v (by simpa using hv)) ht)
theorem comp_str {elt iter : Expr} {x : Str} {px : Pos} {scope : Scope} {pos : Pos} {Q : Value → Shared → Prop} {y : Str} {t : Tok} (g : Nat → Int)
    (F₀ : Fr h₀ L s.heap m) (N₀ : News h₀ L s.heap news) (hh : A.handled = none)
    (hclos : closureFor scope env = pure []) (hcell : ∀ y ∈ scope.names, y.2 ≠ .cell) (hkind : scope.kind = .function)
    (hnames : ∀ y ∈ scope.names, y.2 = .local → scope.names.lookup y.1 = some .local) (hx : scope.names.lookup x = some .local) (hsz : y.length ≤ sizeLine)
    (hi : ∀ Q' : Value → Shared → Prop, Q' (.str y t) s → wpAny (model prog w) A (eval iter env) Q' E s)
    (helt : ∀ C oC m₂ c u (s₃ : Shared) E', LCg.NsObj oC m₂ → m₂ x = some (.str ⟨#[c]⟩ u) → Fr h₀ L s₃.heap m → News h₀ L s₃.heap ((C, oC) :: news) →
      wpAny (model prog w) A (eval elt (compEnvC scope [] C env)) (fun r s₄ => (∃ t, r = .int (g c) t) ∧ Keeps s₃ s₄) E' s₃)
    (ret : ∀ D n ys h' tk, IntsAre ys ((ch y).map g) → Fr h₀ L h' m → News h₀ L h' ((D, listOf ys.toArray n) :: news) → (∀ p ∈ news, @Ne Nat p.1 D) → Q (.ref D) { s with heap := h', toks := tk })
    (hs : ∀ x, foldedSetIterable iter env x = pure x := by intro _; rfl) :
    wpAny (model prog w) A (eval (.ListComp elt [⟨.Name x px, iter, [], 0⟩] scope pos) env) Q E s := by
  refine wpAny_ListComp_free (cl := []) (fun _ => true) (fun v r => ∀ c u, v = Value.str ⟨#[c]⟩ u → ∃ t, r = Value.int (g c) t) hclos hcell hkind hnames hx (hi _ ?_) hs
  refine wpAny_pyIter_str fun o St W hst => ?_
  have up : ∀ (h' : Heap), (∀ b o', b ∉ [s.heap.objs.size] → (s.heap.push o).get? b = some o' → h'.get? b = some o') → ∀ b o', s.heap.get? b = some o' → h'.get? b = some o' :=
    fun h' hk b o' e => hk b o' (old_not_new e) (Heap.get?_push_of_some _ e)
  refine ⟨s.heap.objs.size, [s.heap.objs.size], [s.heap.objs.size], y.cps.size, SignAt y, St, rfl, W A hh, hsz, hst, ?_, ⟨?_, ?_⟩, ?_⟩
  · intro b hb
    show b < (s.heap.push o).objs.size
    rw [Heap.size_push, List.mem_singleton.mp hb]
    exact Nat.lt_succ_self _
  · intro C i v s₃ m₃ E' _ hP hn hm _ _
    exact wpAny_pure ⟨rfl, _, _, rfl, fun _ _ e => e⟩
  · intro C i v s₃ m₃ E' hC hP hp hn hm hk _
    obtain ⟨c, u, _, rfl⟩ := hP
    have hC' : s.heap.objs.size + 1 ≤ C := by have := hC; rw [show ({ s with heap := s.heap.push o } : Shared).heap.objs.size = s.heap.objs.size + 1 from Heap.size_push _ _] at this; exact this
    obtain ⟨oC, eC, nC⟩ := LCg.ns_obj hn
    have hCL : C ≠ L := fun q => by have h1 : @LT.lt Nat _ L s.heap.objs.size := F₀.ns.lt; have h2 : @LE.le Nat _ (s.heap.objs.size + 1) C := hC'; have h3 : @Eq Nat C L := q; omega
    have hC₀ : h₀.get? C = none := by
      cases e : h₀.get? C with
      | none => rfl
      | some o' => have h1 : @LT.lt Nat _ C s.heap.objs.size := Heap.lt_size (F₀.keep _ _ e); have h2 : @LE.le Nat _ (s.heap.objs.size + 1) C := hC'; omega
    have k := up s₃.heap hk
    refine wpAny_mono (helt C oC m₃ c u s₃ E' nC hm (F₀.keeps k) (fun p hp => ?_)) (fun r s₄ h₄ => ⟨fun c' u' e => ?_, h₄.2⟩) fun _ _ e => e
    · rcases List.mem_cons.mp hp with rfl | hp
      · exact ⟨eC, hCL, hC₀⟩
      · exact ⟨k _ _ (N₀ p hp).1, (N₀ p hp).2⟩
    · cases e; exact h₄.1
  · intro D h' tk ys vs hnew hlD hplD hlen hP hF hk
    have k := up h' hk
    obtain ⟨n, hD⟩ := hplD
    have hns : s.heap.get? D = none := by
      cases e : s.heap.get? D with
      | none => rfl
      | some o' => rw [Heap.get?_push_of_some _ e] at hnew; cases hnew
    have off : ∀ p ∈ news, @Ne Nat p.1 D := fun p hp q => by have := (N₀ p hp).1; rw [q, hns] at this; cases this
    have hDL : D ≠ L := fun q => by
      obtain ⟨o', _, _, e, _⟩ := F₀.ns
      rw [← q, hns] at e; cases e
    have hD₀ : h₀.get? D = none := by
      cases e : h₀.get? D with
      | none => rfl
      | some o' => rw [F₀.keep _ _ e] at hns; cases hns
    refine ret D n ys.toList h' tk ?_ (F₀.keeps k) (fun p hp => ?_) off
    · refine ints_of_signs (y := y) (vs := vs) (by rw [hlen]; simp [ch]) (fun j v hv => ?_) (by rw [List.filter_eq_self.mpr (fun _ _ => rfl)] at hF; exact hF)
      obtain ⟨c, u, hc, rfl⟩ := hP j v hv
      exact ⟨c, u, by simpa [ch] using hc, rfl⟩
    · rcases List.mem_cons.mp hp with rfl | hp
      · exact ⟨by rw [Array.toArray_toList]; exact hD, hDL, hD₀⟩
      · exact ⟨k _ _ (N₀ p hp).1, (N₀ p hp).2⟩
end
end Mine
-- text V1
namespace Mine
open PySem.Calls PySem.Spec
set_option maxRecDepth 100000
set_option maxHeartbeats 8000000
def readV : Nat → List Nat → Option (Nat × List Nat)
  | _, [] => none
  | v, b :: r => if b / 64 % 2 = 1 then readV ((v * 64 + b % 64)) r else some (v * 64 + b % 64, r)
theorem readV_len : ∀ {v : Nat} {l : List Nat} {x : Nat × List Nat}, readV v l = some x → x.2.length < l.length
  | _, [], _, h => by cases h
  | v, b :: r, x, h => by
    simp only [readV] at h
    split at h
    · have := readV_len h; simp; omega
    · cases h; simp
def readAll (l : List Nat) : List Nat := match h : readV 0 l with
  | none => []
  | some (v, r) => v :: readAll r
termination_by l.length
decreasing_by exact readV_len h
theorem readAll_none {l : List Nat} (h : readV 0 l = none) : readAll l = [] := by
  rw [readAll]; split
  · rfl
  · rename_i e; rw [h] at e; cases e
theorem readAll_some {l r : List Nat} {v : Nat} (h : readV 0 l = some (v, r)) : readAll l = v :: readAll r := by
  rw [readAll]; split
  · rename_i e; rw [h] at e; cases e
  · rename_i e; rw [h] at e; cases e; rfl
theorem and63 (c : Nat) : Builtin.bitAnd (c : Int) 63 = ((c % 64 : Nat) : Int) := by rw [bitAnd_m6]; omega
theorem bitAnd_nat (a b : Nat) : Builtin.bitAnd (a : Int) (b : Int) = ((a &&& b : Nat) : Int) := by
  unfold Builtin.bitAnd
  simp
theorem and64 (c : Nat) : Builtin.bitAnd (c : Int) 64 ≠ 0 ↔ c / 64 % 2 = 1 := by
  have h := bitAnd_nat c 64
  rw [show ((64 : Nat) : Int) = 64 from rfl] at h
  rw [h]
  have e : c &&& 64 = if c.testBit 6 then 64 else 0 := by
    apply Nat.eq_of_testBit_eq
    intro i
    rw [Nat.testBit_and, show (64 : Nat) = 2 ^ 6 from rfl, Nat.testBit_two_pow]
    by_cases q : 6 = i
    · subst q; cases c.testBit 6 <;> decide
    · have z : Nat.testBit 64 i = false := by rw [show (64 : Nat) = 2 ^ 6 from rfl, Nat.testBit_two_pow]; simp [q]
      cases c.testBit 6 <;> simp [q, z]
  rw [e, Nat.testBit_eq_decide_div_mod_eq]
  by_cases q : c / 64 % 2 = 1
  · simp [q]
  · simp [q]
theorem and_low (v r : Nat) (h : r < 64) : v * 64 &&& r = 0 := by
  apply Nat.eq_of_testBit_eq
  intro i
  rw [Nat.testBit_and, Nat.zero_testBit]
  by_cases q : i < 6
  · have : (v * 2 ^ 6).testBit i = false := by rw [Nat.testBit_mul_two_pow]; simp; omega
    rw [show v * 64 = v * 2 ^ 6 from rfl, this]; rfl
  · have : r.testBit i = false := Nat.testBit_lt_two_pow (Nat.lt_of_lt_of_le (show r < 2 ^ 6 from h) (Nat.pow_le_pow_right (by decide) (by omega : 6 ≤ i)))
    rw [this]; simp
theorem or6 (v c : Nat) : Builtin.bitOr ((v : Int) * 2 ^ (6 : Int).toNat) (Builtin.bitAnd (c : Int) 63) = ((v * 64 + c % 64 : Nat) : Int) := by
  rw [and63, show ((v : Int) * 2 ^ (6 : Int).toNat) = ((v * 64 : Nat) : Int) by simp, bitOr_and, bitAnd_nat, and_low v (c % 64) (Nat.mod_lt c (by decide : 64 > 0))]
  simp
theorem vbits {v j : Nat} (h : v < 2 ^ (6 * j)) (hj : j ≤ 2000) : (Builtin.Int.intBits (v : Int) : Int) + 6 ≤ 2 ^ 27 := by
  have : Builtin.Int.intBits (v : Int) ≤ 6 * j := by
    unfold Builtin.Int.intBits
    split
    · exact Nat.zero_le _
    · rename_i hz
      have hz' : v ≠ 0 := fun q => hz (by simp [q])
      have := (Nat.log2_lt hz').mpr h
      simp; omega
  have : Builtin.Int.intBits (v : Int) ≤ 12000 := by omega
  have h2 : (2 : Int) ^ 27 = 134217728 := by decide
  omega
theorem vnext {v j c : Nat} (h : v < 2 ^ (6 * j)) : v * 64 + c % 64 < 2 ^ (6 * (j + 1)) := by
  rw [show 6 * (j + 1) = 6 * j + 6 by omega, Nat.pow_add]
  have := Nat.mod_lt c (show 64 > 0 by decide)
  omega
theorem readV_cons {v b : Nat} {cs : List Nat} {j : Nat} (h : cs[j]? = some b) : readV v (cs.drop j) = if b / 64 % 2 = 1 then readV (v * 64 + b % 64) (cs.drop (j + 1)) else some (v * 64 + b % 64, cs.drop (j + 1)) := by
  obtain ⟨hj, rfl⟩ := List.getElem?_eq_some_iff.mp h
  rw [List.drop_eq_getElem_cons hj, readV]
theorem readV_end {v : Nat} {cs : List Nat} {j : Nat} (h : cs[j]? = none) : readV v (cs.drop j) = none := by
  rw [List.drop_eq_nil_of_le (by simpa using h)]; rfl
theorem ints_at {cs : List Nat} {ys : List Value} (hys : IntsAre ys (cs.map fun (c : Nat) => (c : Int))) {i : Nat} {v : Value} (h : ys[i]? = some v) : ∃ (c : Nat) (t : Tok), v = .int (c : Int) t ∧ cs[i]? = some c := by
  obtain ⟨k, t, rfl, hk⟩ := IntsAre.at hys i v h
  rw [List.getElem?_map] at hk
  cases e : cs[i]? with
  | none => rw [e] at hk; cases hk
  | some c => rw [e] at hk; cases hk; exact ⟨c, t, rfl, rfl⟩
theorem ints_no {cs : List Nat} {ys : List Value} (hys : IntsAre ys (cs.map fun (c : Nat) => (c : Int))) {i : Nat} (h : ys[i]? = none) : cs[i]? = none := by
  have := hys.length
  simp at this h ⊢
  omega
section
variable {w : World} {p : Program} {loose : List Str} {mean : ExcName → Option Value} {mg mb : Str → Option Value}
section
local macro_rules | `(tactic| walk_at $k:str) => do
  if ["exec While BinOp cons nil", "KswEnd", "call builtin:next"].contains k.getString then `(tactic| refine Stop.out ?_) else Lean.Macro.throwUnsupported
local macro_rules | `(tactic| walk_at "storeName") => `(tactic| (dsimp only; walk_at "storeName"))
local macro_rules | `(tactic| walk_at "inplaceOp LShift int int") => `(tactic| k_dflt (refine ilshift_int (by decide) (vbits (by with_reducible assumption) (by omega)) ?_))
local macro_rules | `(tactic| walk_at "mine ksw") => `(tactic| (
  (refine' ksw_end (_, _, _, _, _) (by assumption) (by assumption) (fun _ hp => hp) trivial ?hk ?hr ?hp ?hm)
  (case hk => (refine List.forall_mem_cons.mpr ⟨?_, List.forall_mem_cons.mpr ⟨?_, List.forall_mem_cons.mpr ⟨?_, List.forall_mem_nil _⟩⟩⟩ <;> (dsimp only; exact rfl)))
  (case hr => ksw_same)))
theorem varint_cl (cs : List Nat) (ys : List Value) (hys : IntsAre ys (cs.map fun (c : Nat) => (c : Int))) (l' q D : Addr) (ol : Obj) (i n : Nat) (l1 : @LT.lt Nat _ D q) (l2 : (@LT.lt Nat _ q l') ∧ (@LT.lt Nat _ D l')) (hcs : cs.length ≤ 2000) :
   ClE PySem.Challenge.rw_ny0161_01.row.prog w (Mine.hdK w.params) p loose mean mg mb 72 0 "StopIteration" [.ref q] [(l', ol), (q, itObj D i), (D, listOf ys.toArray n)]
    (fun v nw => ∃ j x t, readV 0 (cs.drop i) = some (x, cs.drop j) ∧ i < j ∧ j ≤ cs.length ∧ v = .int (x : Nat) t ∧ nw = [(l', ol), (q, itObj D j), (D, listOf ys.toArray n)])
    (fun nw => readV 0 (cs.drop i) = none ∧ nw = [(l', ol)]) := by
  k_fill
  refine ClE.intro (binds := [(Str.ofString "iterator", .ref q)]) (by k_is) (by k_is) (fun s X => BindsTo.of_eq rfl) (locs rfl) rfl rfl rfl (by decide) ?_
  intro dp un gd outer A₀ base g L' s EX hEX B F N X T hdp hun
  try k_fold
  k_steps
  unfold Stop
  cases hi : ys[i]? with
  | none =>
    refine next_end_N rfl (by k_asm) (by k_asm) (by k_mem) (by k_upd) (by simpa using hi) ?_
    intro h1 h2 e F1 N1 hx
    exact hEX e _ _ _ _ _ ⟨readV_end (ints_no hys hi), rfl⟩ F1 (fun p hp => N1 p (by simp only [List.mem_singleton] at hp; subst hp; exact List.mem_cons_self)) hx
  | some v =>
    obtain ⟨k, t, rfl, hk⟩ := ints_at hys hi
    refine next_item_N (x := .int k t) (by k_asm) (by k_asm) (by k_mem) (by k_upd) (by simpa using hi) ?_
    intro h1 F1 N1
    k_steps
    unfold Stop
    rename_i h2 tk2 h3 F3 N3
    have hil : i < cs.length := (List.getElem?_eq_some_iff.mp hk).1
    refine ksw_while (σ := Nat × Int × Int × Tok × Tok) (fun c => [(l', ol), (q, itObj D c.1), (D, listOf ys.toArray n)]) (fun c => [(Str.ofString "iterator", .ref q), (Str.ofString "val", .int c.2.1 c.2.2.2.1), (Str.ofString "b", .int c.2.2.1 c.2.2.2.2)]) (fun _ => True) []
      (fun c => ∃ v b : Nat, c.2.1 = v ∧ c.2.2.1 = b ∧ v < 2 ^ (6 * c.1) ∧ i < c.1 ∧ c.1 ≤ cs.length ∧ readV 0 (cs.drop i) = if b / 64 % 2 = 1 then readV v (cs.drop c.1) else some (v, cs.drop c.1)) (fun c => cs.length - c.1) (i + 1, Builtin.bitAnd k 63, k, tk2 + 1, t) F3 N3 trivial
      (by refine List.forall_mem_cons.mpr ⟨?_, List.forall_mem_cons.mpr ⟨?_, List.forall_mem_cons.mpr ⟨?_, List.forall_mem_nil _⟩⟩⟩ <;> (dsimp only; exact rfl))
      ⟨k % 64, k, and63 k, rfl, by have := vnext (v := 0) (j := i) (c := k) (Nat.pow_pos (by decide)); simpa using this, Nat.lt_succ_self _, hil, by rw [readV_cons hk]; simp⟩ (fun c u h5 tk5 _ hp F5 N5 => ?_)
    clear F3 N3
    obtain ⟨j, v, b, t1, t2⟩ := c
    dsimp only [kstB] at F5
    dsimp only at N5 hp
    obtain ⟨v, b, rfl, rfl, hv, hij, hj, hp⟩ := hp
    k_steps
    · unfold Stop
      have h64 : Builtin.bitAnd (b : Int) 64 ≠ 0 := by with_reducible assumption
      rw [if_pos ((and64 b).mp h64)] at hp
      cases hi : ys[j]? with
      | none =>
        refine next_end_N rfl (by k_asm) (by k_asm) (by k_mem) (by k_upd) (by simpa using hi) ?_
        intro h1 h2 e F1 N1 hx
        exact hEX e _ _ _ _ _ ⟨hp.trans (readV_end (ints_no hys hi)), rfl⟩ F1 (fun p hp => N1 p (by simp only [List.mem_singleton] at hp; subst hp; exact List.mem_cons_self)) hx
      | some x =>
        obtain ⟨k2, t', rfl, hk2⟩ := ints_at hys hi
        have hjl : j < cs.length := (List.getElem?_eq_some_iff.mp hk2).1
        refine next_item_N (x := .int k2 t') (by k_asm) (by k_asm) (by k_mem) (by k_upd) (by simpa using hi) ?_
        intro h1 F1 N1
        k_steps
        unfold Stop
        walk_at "mine ksw"
        case hp => exact ⟨v * 64 + k2 % 64, k2, or6 v k2, rfl, vnext hv, by omega, hjl, by rw [hp, readV_cons hk2]⟩
        case hm => dsimp only; omega
    · have h64 : Builtin.bitAnd (b : Int) 64 = 0 := by with_reducible assumption
      rw [if_neg (fun q => (and64 b).mpr q h64)] at hp
      exact ⟨_, _, _, _, rfl, ⟨j, v, t1, hp, hij, hj, rfl, rfl⟩, F5, N5⟩
end
end
end Mine
-- text R1
namespace Mine
open PySem.Calls PySem.Spec
set_option maxRecDepth 100000
set_option maxHeartbeats 8000000
section
variable {w : World} {p : Program} {loose : List Str} {mean : ExcName → Option Value} {mg mb : Str → Option Value}
theorem si_isExc : isSubtype (.type "StopIteration") (.type "BaseException") = pure true := by rw [isSubtype_type]; kernel_rfl
theorem si_notTuple : isSubtype (.type ((Manifest.find? "StopIteration").elim "type" fun x => x.metatype)) (.type "tuple") = pure false := by
  rw [show ((Manifest.find? "StopIteration").elim "type" fun x => x.metatype) = "type" by kernel_rfl, isSubtype_type]; kernel_rfl
theorem readAll_len : ∀ (n : Nat) (l : List Nat), l.length ≤ n → (readAll l).length ≤ l.length := by
  intro n
  induction n with
  | zero => intro l h; have : l = [] := List.length_eq_zero_iff.mp (by omega); subst this; rw [readAll_none rfl]; simp
  | succ n ih =>
    intro l h
    cases e : readV 0 l with
    | none => rw [readAll_none e]; simp
    | some x =>
      obtain ⟨v, r⟩ := x
      have h1 := readV_len e
      rw [readAll_some e]
      have := ih r (by dsimp only at h1; omega)
      simp; dsimp only at h1; omega
section
local macro_rules | `(tactic| walk_at $k:str) => do
  if ["exec While Constant cons nil", "exec While Compare cons nil", "KswEnd", "Turn", "eval ListComp", "call builtin:next", "exec While BinOp cons nil", "call ref"].contains k.getString then `(tactic| refine Stop.out ?_) else Lean.Macro.throwUnsupported
local macro_rules | `(tactic| walk_at "storeName") => `(tactic| (dsimp only; walk_at "storeName"))
local macro_rules | `(tactic| walk_at "call builtin:iter") => `(tactic| ((k_dflt (refine' iter_N ?k1 ?k2 ?k3 ?_; (case k1 => k_asm); (case k2 => k_asm); (case k3 => k_mem))); intro q' h' F' N' l1; (try k_lt l1); (try dsimp only)))
local macro_rules | `(tactic| walk_at "call builtin:list.append") => `(tactic| k_dflt (refine append_K (by k_asm) (by k_asm) (by k_upd) ?_ (by simp only [List.size_toArray, PySem.sizeLine_eq]; omega)))
local macro_rules | `(tactic| walk_at "mine ksw") => `(tactic| (
  (refine' ksw_end (_, _, _) (by assumption) (by assumption) (fun _ hp => by simpa using hp) trivial ?hk ?hr ?hp ?hm)
  (case hk => (refine List.forall_mem_cons.mpr ⟨?_, List.forall_mem_cons.mpr ⟨?_, List.forall_mem_nil _⟩⟩ <;> (dsimp only; exact rfl)))
  (case hr => ksw_same)))
theorem read_cl (x : Str) (t : Tok) :
   ClR PySem.Challenge.rw_ny0161_01.row.prog w (Mine.hdK w.params) p loose mean mg mb 91 1 (fun _ => x.length ≤ 2000) [.str x t] (fun v nw => ∃ l n vs, v = .ref l ∧ nw = [(l, listOf vs.toArray n)] ∧ IntsAre vs ((readAll (ch x)).map fun (c : Nat) => (c : Int))) := by
  k_fill
  refine ClR.intro (binds := [(Str.ofString "text", .str x t)]) (by k_is) (by k_is) (fun s X => BindsTo.of_eq rfl) (locs rfl) rfl rfl rfl (by decide) ?_
  intro dp un gd cn cs L₀ a ccd A₀ base g L' s B F N X T XB TB D h1p h3p hx hdp hun
  try k_fold
  k_steps
  unfold Stop
  refine comp_str (y := x) (t := t) (fun c => (c : Int)) (by k_asm) (by k_asm) rfl (by with_unfolding_all rfl) (by decide) rfl (by decide) rfl (by size_fits) (fun Q' hq => by k_steps; exact hq) (fun C oC m₂ c u s₃ E' nC hm F₃ N₃ => ?_) (fun D n ys h' tk hys F N off => ?_)
  · try k_fold
    k_steps
    exact ⟨_, _, rfl, fun _ _ e => e⟩
  · k_steps
    unfold Stop
    rename_i q' h1 l1 h2 tk1 l' h3 l2 h4 F4 N4
    refine ksw_while (σ := Nat × List Value × Nat) (fun c => [(l', listOf c.2.1.toArray c.2.2), (q', itObj D c.1), (D, listOf ys.toArray n)]) (fun c => [(Str.ofString "numbers", .ref l'), (Str.ofString "octets", .ref q')]) (fun _ => True) [] (fun c => c.1 ≤ (ch x).length ∧ ∃ done, IntsAre c.2.1 (done.map fun (c : Nat) => (c : Int)) ∧ readAll (ch x) = done ++ readAll ((ch x).drop c.1)) (fun c => (ch x).length - c.1) (0, [], 0) F4 N4 trivial (by intro p hp; simp only [List.mem_cons, List.not_mem_nil, or_false] at hp; rcases hp with rfl | rfl <;> rfl) ⟨Nat.zero_le _, [], .nil, by simp⟩ (fun c u h5 tk5 _ hp F5 N5 => ?_)
    clear F4 N4
    obtain ⟨j, vs, k⟩ := c
    dsimp only [kstB] at F5
    dsimp only at N5 hp
    obtain ⟨hj, done, hvs, hdone⟩ := hp
    k_steps
    unfold Stop
    refine ClE.use (varint_cl (w := w) (p := p) (loose := loose) (mean := mean) (mg := mg) (mb := mb) (ch x) ys hys l' q' D (listOf vs.toArray k) j n l1 l2 (by rw [ch_len]; exact hx)) B F5 X N5 T XB TB (by assumption) rfl (by omega) (by omega) ?_ ?_
    · rintro v nw h6 tk6 ⟨j', xv, t6, hv, hjj, hj', rfl, rfl⟩ F6 N6
      have hvl : vs.length ≤ 2000 := by
        have h1 := hvs.length
        have h2 := congrArg List.length hdone
        have h3 := readAll_len _ (ch x) (Nat.le_refl _)
        have h4 := ch_len x
        simp at h1 h2
        omega
      k_steps
      unfold Stop
      walk_at "mine ksw"
      case hp =>
        refine ⟨hj', done ++ [xv], ?_, ?_⟩
        · rw [List.map_append]; exact IntsAre.append hvs (.cons _ _ .nil)
        · rw [hdone, readAll_some hv]; simp
      case hm => dsimp only; omega
    · rintro e nw G h6 tk6 ⟨hv, rfl⟩ F6 R6 U6
      refine caught_top (T' := "StopIteration") h1p h3p R6 F6 B U6 XB TB (by assumption) KtsTurn.refl (by k_is) (by boot_by_name) (by decide) si_isExc si_notTuple isSubtype_stop ?_
      intro h7 g7 T7 F7 N7
      k_steps
      refine ⟨_, _, _, _, _, _, rfl, T7, ⟨l', k, vs, rfl, rfl, ?_⟩, F7, N7⟩
      rw [hdone, readAll_none hv, List.append_nil]
      exact hvs
end
end
end Mine
-- text I1
namespace Mine
open PySem.Calls PySem.Spec
set_option maxRecDepth 100000
set_option maxHeartbeats 8000000
def itW (x : Int) : Int := 1 + (x.fdiv 8).fmod 3
def itR (x : Int) : Int := if x.fmod 8 = 7 then ((x.fdiv 8).fdiv 3).fdiv 64 else (x.fdiv 8).fdiv 3
def itL (x : Int) : Int := ([13, 10, 32, 9, 61, 30, 63, ((x.fdiv 8).fdiv 3).fmod 64] : List Int).getD (x.fmod 8).toNat 0
def itN (x : Int) : Int := (itR x).fmod (64 ^ (itW x - 1).toNat) * 64 + itL x
abbrev tupOf (vs : List Value) (n : Nat) : Obj := { cls := .type "tuple", data := .seq vs.toArray n }
theorem fm {a b : Int} (h : 0 < b) : 0 ≤ a.fmod b ∧ a.fmod b < b := ⟨Int.fmod_nonneg_of_pos a h, Int.fmod_lt_of_pos a h⟩
section
variable {prog : Program} {w : World} {A : Around} {E : Value → Shared → Prop} {s : Shared} {h₀ : Heap} {L : Addr} {news : List (Addr × Obj)}
theorem getTupInts {D : Addr} {vs : List Value} {n : Nat} {ns : List Int} {i : Int} {u : Tok} {Q : Value → Shared → Prop} (N : News h₀ L s.heap news) (hm : (D, tupOf vs n) ∈ news) (hi : IntsAre vs ns) (h0 : 0 ≤ i) (h1 : i < ns.length) (hl : ns.length ≤ 1000)
    (h : ∀ t, Q (.int (ns.getD i.toNat 0) t) s) : wpAny (model prog w) A (getItem (.ref D) (.int i u)) Q E s := by
  have hlen := hi.length
  have hb : i.toNat < vs.length := by omega
  obtain ⟨k, t, e, hk⟩ := IntsAre.at hi i.toNat vs[i.toNat] (by simp [hb])
  have hg : ns.getD i.toNat 0 = k := by simp [List.getD, hk]
  refine getItem_tuple (j := i.toNat) (x := .int k t) (items := vs.toArray) ⟨_, (N _ hm).1, rfl, n, rfl⟩ (by omega) (by omega) (seqIndex_of h0 (by simp; omega)) (by simp [hb, e]) (hg ▸ h t)
theorem subTupInts {value slice : Expr} {D : Addr} {vs : List Value} {n : Nat} {ns : List Int} {i : Int} {u : Tok} {Q : Value → Shared → Prop} (N : News h₀ L s.heap news) (hm : (D, tupOf vs n) ∈ news) (hi : IntsAre vs ns) (h0 : 0 ≤ i) (h1 : i < ns.length) (hl : ns.length ≤ 1000)
    (h : ∀ t, Q (.int (ns.getD i.toNat 0) t) s) (hs : subscripted slice false (.ref D) (.int i u) = operate [.ref D, .int i u] (getItem (.ref D) (.int i u)) := by with_unfolding_all rfl) :
    wpAny (model prog w) A (subscriptTail value slice (.ref D) (.int i u)) Q E s :=
  tail_any (T := "tuple") ⟨_, (N _ hm).1, rfl⟩ slot_tuple_getitem.lookup (getTupInts N hm hi h0 h1 hl h) hs
end
theorem pow64 (n : Nat) : (64 : Int) ^ n ≠ 0 := by
  have : (0 : Int) < 64 ^ n := Int.pow_pos (by decide)
  omega
section
variable {w : World} {p : Program} {loose : List Str} {mean : ExcName → Option Value} {mg mb : Str → Option Value}
local macro_rules | `(tactic| walk_at "subscriptTail") => `(tactic| refine Stop.out ?_)
local macro_rules | `(tactic| walk_at "storeName") => `(tactic| (dsimp only; walk_at "storeName"))
local macro_rules | `(tactic| walk_at "newTuple") => `(tactic| (dsimp only; walk_at "newTuple"))
local macro_rules | `(tactic| walk_at "binaryOp Mod int int") => `(tactic| k_dflt (refine mod_int' (by first | decide | exact pow64 _) ?_))
local macro_rules | `(tactic| walk_at "binaryOp Pow int int") => `(tactic| k_dflt (refine pow_int_small (n := 1 + (Int.fmod _ 3) - 1) (by have := @fm ((Int.fdiv x 8)) 3 (by decide); omega) (by have := @fm ((Int.fdiv x 8)) 3 (by decide); omega) (by decide) ?_))
theorem item_cl (x : Int) (t : Tok) :
   Cl PySem.Challenge.rw_ny0161_01.row.prog w (Mine.hdK w.params) p loose mean mg mb 79 0 (fun _ => True) [.int x t] (fun v nw => ∃ l n t1 t2, v = .ref l ∧ nw = [(l, tupOf [.int (itW x) t1, .int (itN x) t2, .bool (decide (x < 0))] n)]) := by
  k_fill
  refine Cl.intro (binds := [(Str.ofString "x", .int x t)]) (by k_is) (by k_is) (fun s X => BindsTo.of_eq rfl) (locs rfl) rfl rfl rfl (by decide) ?_
  intro dp un gd outer A₀ base g L' s B F N X T hx hdp hun
  try k_fold
  k_steps
  unfold Stop
  refine subTupInts (ns := [13, 10, 32, 9, 61, 30, 63, ((x.fdiv 8).fdiv 3).fmod 64]) (by k_asm) (by k_mem) (by l_ints) (fm (b := 8) (by decide)).1 (fm (b := 8) (by decide)).2 (by simp) ?_
  intro t4
  k_steps
  · have h7 : x.fmod 8 = 7 := by with_reducible assumption
    rename_i D2 h2 F2 N2 l2
    have e : (((x.fdiv 8).fdiv 3).fdiv 64).fmod (64 ^ (1 + (x.fdiv 8).fmod 3 - 1).toNat) * 64 + [13, 10, 32, 9, 61, 30, 63, ((x.fdiv 8).fdiv 3).fmod 64].getD (x.fmod 8).toNat 0 = itN x := by
      unfold itN itR; rw [if_pos h7]; rfl
    rw [e] at N2
    exact ⟨_, _, _, _, rfl, ⟨_, _, _, _, rfl, rfl⟩, F2, fun p hp => N2 p (by rw [List.mem_singleton.mp hp]; exact List.mem_cons_self)⟩
  · have h7 : x.fmod 8 ≠ 7 := by with_reducible assumption
    rename_i D2 h2 F2 N2 l2
    have e : ((x.fdiv 8).fdiv 3).fmod (64 ^ (1 + (x.fdiv 8).fmod 3 - 1).toNat) * 64 + [13, 10, 32, 9, 61, 30, 63, ((x.fdiv 8).fdiv 3).fmod 64].getD (x.fmod 8).toNat 0 = itN x := by
      unfold itN itR; rw [if_neg h7]; rfl
    rw [e] at N2
    exact ⟨_, _, _, _, rfl, ⟨_, _, _, _, rfl, rfl⟩, F2, fun p hp => N2 p (by rw [List.mem_singleton.mp hp]; exact List.mem_cons_self)⟩
end
end Mine
-- text F3
namespace Mine
open PySem.Calls PySem.Spec
section
variable {prog : Program} {w : World} {A : Around} {E : Value → Shared → Prop} {s : Shared} {h₀ : Heap} {env : Env} {Q : Flow → Shared → Prop}
theorem asgN {M : Model} {m : Str → Option Value} {news : List (Addr × Obj)} {x : Str} {px : Pos} {v : Value} {Q : Unit → Shared → Prop} (F : Fr h₀ env.locals s.heap m) (N : News h₀ env.locals s.heap news) (hx : env.kindOf x = some .local)
    (hp : (env.scope.kind == .class || (env.scope.kind == .module && env.locals != env.globals)) = false)
    (h : ∀ h' tk, Fr h₀ env.locals h' (fun y => if y = x then some v else m y) → News h₀ env.locals h' news → Q () { s with heap := h', toks := tk }) : wpAny M A (assign (.Name x px) env v) Q E s :=
  wpAny_assign_Name (wpAny_storeName_local hx F.ns (fun h₂ hn₂ hs₂ => h h₂ _ (F.set hn₂ hs₂) (N.set hs₂)) hp)
theorem asg3 {m : Str → Option Value} {news : List (Addr × Obj)} {a b c : Str} {pa pb pc tp : Pos} {kk : Nat} {T : Addr} {va vb vc : Value} {Q : Unit → Shared → Prop} (hh : A.handled = none) (F : Fr h₀ env.locals s.heap m) (N : News h₀ env.locals s.heap news) (ht : IsTup s.heap T #[va, vb, vc])
    (ha : env.kindOf a = some .local) (hb : env.kindOf b = some .local) (hc : env.kindOf c = some .local)
    (hp : (env.scope.kind == .class || (env.scope.kind == .module && env.locals != env.globals)) = false)
    (h : ∀ h' tk, Fr h₀ env.locals h' (fun y => if y = c then some vc else if y = b then some vb else if y = a then some va else m y) → News h₀ env.locals h' news → Q () { s with heap := h', toks := tk }) :
    wpAny (model prog w) A (assign (.Tuple [.Name a pa, .Name b pb, .Name c pc] kk tp) env (.ref T)) Q E s := by
  refine unpackN_ F N ht hh rfl rfl fun h₁ F₁ N₁ => ?_
  refine assignInOrder_cons (asgN F₁ N₁ ha hp fun h₂ t₂ F₂ N₂ => ?_)
  refine assignInOrder_cons (asgN F₂ N₂ hb hp fun h₃ t₃ F₃ N₃ => ?_)
  refine assignInOrder_cons (asgN F₃ N₃ hc hp fun h₄ t₄ F₄ N₄ => ?_)
  exact assignInOrder_nil (h h₄ t₄ F₄ N₄)
theorem for3 {σ : Type} {l : Addr} {vs : List Value} {m₀ : Str → Option Value} {a b c : Str} {pa pb pc tp pos : Pos} {kk : Nat} {iter : Expr} {body : List Stmt} (X : Nat → Value → Value → Value → Prop)
    (Led : σ → List (Addr × Obj)) (ps : σ → List (Str × Value)) (stored : List Str) (P : Nat → σ → Prop) (c₀ : σ)
    (hh : A.handled = none) (ha : env.kindOf a = some .local) (hb : env.kindOf b = some .local) (hc : env.kindOf c = some .local)
    (hsc : (env.scope.kind == .class || (env.scope.kind == .module && env.locals != env.globals)) = false)
    (sa : stored.contains a = true) (sb : stored.contains b = true) (sc : stored.contains c = true)
    (hi : ∀ Q' : Value → Shared → Prop, Q' (.ref l) s → wpAny (model prog w) A (eval iter env) Q' E s)
    (hl : h₀.IsList l vs.toArray) (htup : ∀ i v, vs[i]? = some v → ∃ T va vb vc, v = .ref T ∧ IsTup h₀ T #[va, vb, vc] ∧ X i va vb vc)
    (F : Fr h₀ env.locals s.heap m₀) (N : News h₀ env.locals s.heap (Led c₀)) (hk : ∀ p ∈ ps c₀, m₀ p.1 = some p.2) (hp : P 0 c₀)
    (turn : ∀ i va vb vc (cc : σ) (u : Str → Option Value) h tk (I : Addr) (oI : Obj), i < vs.length → X i va vb vc → (∀ q ∈ (Led cc).map (·.1), @Ne Nat I q) → P i cc →
      Fr h₀ env.locals h (fun y => if y = c then some vc else if y = b then some vb else if y = a then some va else kstB (fun z => if stored.contains z then u z else m₀ z) (ps cc) y) → News h₀ env.locals h (Led cc ++ [(I, oI)]) →
      wpAny (model prog w) A (execs body env) (Turn h₀ env.locals s Led ps c stored m₀ (P (i + 1)) [(I, oI)] Q) E { s with heap := h, toks := tk })
    (done : ∀ (cc : σ) (u : Str → Option Value) h tk, P vs.length cc → Fr h₀ env.locals h (kstB (fun z => if stored.contains z then u z else m₀ z) (ps cc)) → News h₀ env.locals h (Led cc) → Q .next { s with heap := h, toks := tk })
    (hs : ∀ x, foldedSetIterable iter env x = pure x := by intro _; rfl)
    (hE : PassesOwn (model prog w) A env E := by passes_own) :
    wpAny (model prog w) A (exec (.For (.Tuple [.Name a pa, .Name b pb, .Name c pc] kk tp) iter body [] pos) env) Q E s := by
  have hls : s.heap.IsList l vs.toArray := hl.at fun o e => F.keep l o e
  refine wpAny_For (hi _ (wpAny_pyIter_list hls ?_)) hs
  have hI0 : h₀.get? s.heap.objs.size = none := next_is_new F
  have hIL : s.heap.objs.size ≠ env.locals := Nat.ne_of_gt F.ns.lt
  have hlI : l ≠ s.heap.objs.size := fun q => by obtain ⟨o, e, _⟩ := hls; have := Heap.lt_size e; rw [q] at this; exact Nat.lt_irrefl _ this
  refine codeAny_forLoop_any (R := fun r s' => match r with | .ok f => Q f s' | .error e => cameBackBy (model prog w) A env E e s')
    (fun k s' => ∃ h' tk cc m' i, s' = { s with heap := h', toks := tk } ∧ h'.IsListIter s.heap.objs.size l i ∧ Fr h₀ env.locals h' m' ∧ News h₀ env.locals h' (Led cc) ∧ (∀ p ∈ Led cc, p.1 ≠ s.heap.objs.size) ∧
      (∀ p ∈ ps cc, m' p.1 = some p.2) ∧ (∀ z, (∀ p ∈ ps cc, z ≠ p.1) → stored.contains z = false → m' z = m₀ z) ∧ P i cc ∧ i ≤ vs.length ∧ k = vs.length + 1 - i) ?_ (vs.length + 1)
    ⟨_, s.toks, c₀, m₀, 0, rfl, ⟨_, Heap.get?_push_size _ rfl, rfl, rfl⟩, F.push _, (fun p hp => ⟨Heap.get?_push_of_some _ (N p hp).1, (N p hp).2⟩), (fun p hp => Nat.ne_of_lt (Heap.lt_size (N p hp).1)), hk, fun _ _ _ => rfl, hp, Nat.zero_le _, rfl⟩
  rintro k s' ⟨h', tk, cc, m', i, rfl, hit, F', N', hoff, h1, h2, hP, hil, rfl⟩
  have hl' : h'.IsList l vs.toArray := hl.at fun o e => F'.keep l o e
  cases hv : vs[i]? with
  | none =>
    have hi' : i = vs.length := Nat.le_antisymm hil (by simpa using hv)
    subst hi'
    refine wpAny_pyNext_list_end hh hit hl' (by simpa using hv) fun h₁ he₁ => wpAny_execs_nil ?_
    have F₁ : Fr h₀ env.locals h₁ m' := ⟨F'.ns.at' fun o e => he₁ _ o (Ne.symm hIL) e, fun b o e => he₁ b o (fun q => by rw [q, hI0] at e; cases e) (F'.keep b o e), F'.above⟩
    exact done cc m' h₁ _ hP (ksw_fr h1 h2 F₁) fun p hp => ⟨he₁ _ _ (hoff p hp) (N' p hp).1, (N' p hp).2⟩
  | some v =>
    have hlt : i < vs.length := (List.getElem?_eq_some_iff.mp hv).1
    obtain ⟨T, va, vb, vc, rfl, hT, hX⟩ := htup i v hv
    refine wpAny_pyNext_list_item hit hl' (x := .ref T) (by simpa using hv) fun h₁ hit₁ hs₁ => ?_
    have F₁ : Fr h₀ env.locals h₁ m' := F'.change hs₁ hIL hI0
    have N₁ : News h₀ env.locals h₁ (Led cc) := fun p hp => ⟨hs₁.extBut _ _ (hoff p hp) (N' p hp).1, (N' p hp).2⟩
    refine wpAny_letOwnedTupleGo_listiter hit₁ ?_
    obtain ⟨oI, eI, rI⟩ := hit₁
    have NI : News h₀ env.locals h₁ (Led cc ++ [(s.heap.objs.size, oI)]) := fun p hp => by
      rcases List.mem_append.mp hp with hp | hp
      · exact N₁ p hp
      · rw [List.mem_singleton.mp hp]; exact ⟨eI, hIL, hI0⟩
    refine asg3 hh (ksw_fr h1 h2 F₁) NI (hT.keeps F₁.keep) ha hb hc hsc fun h₂ tk₂ F₂ N₂ => ?_
    refine wpAny_passesOwn hE (wpAny_mono (turn i va vb vc cc m' h₂ tk₂ s.heap.objs.size oI hlt hX (fun b hb q => ?_) hP F₂ N₂) (fun f s₃ q => ?_) fun _ _ e => e)
    · obtain ⟨r, hr, rfl⟩ := List.mem_map.mp hb
      exact hoff r hr q.symm
    have fin : TurnEnd h₀ env.locals s Led ps c stored m₀ (P (i + 1)) [(s.heap.objs.size, oI)] s₃ → ∃ m, m < vs.length + 1 - i ∧ ∃ h' tk cc m' i, s₃ = { s with heap := h', toks := tk } ∧ h'.IsListIter s.heap.objs.size l i ∧ Fr h₀ env.locals h' m' ∧ News h₀ env.locals h' (Led cc) ∧ (∀ p ∈ Led cc, p.1 ≠ s.heap.objs.size) ∧
      (∀ p ∈ ps cc, m' p.1 = some p.2) ∧ (∀ z, (∀ p ∈ ps cc, z ≠ p.1) → stored.contains z = false → m' z = m₀ z) ∧ P i cc ∧ i ≤ vs.length ∧ m = vs.length + 1 - i := by
      rintro ⟨c', h₃, tk₃, m₃, nw, rfl, F₃, N₃, hn, ho, hoo, hk₃, hr₃, hP₃⟩
      refine ⟨vs.length + 1 - (i + 1), by omega, h₃, tk₃, c', m₃, i + 1, rfl, ⟨oI, (N₃ _ (ho _ List.mem_cons_self)).1, rI⟩, F₃, (fun p hp => N₃ p (hn p hp)), (fun p hp q => ?_), hk₃, (fun z hz hzs => hr₃ z (fun q => by rw [q, sc] at hzs; cases hzs) hz hzs), hP₃, hlt, rfl⟩
      exact hoo _ List.mem_cons_self p.1 (List.mem_map.mpr ⟨p, hp, rfl⟩) q.symm
    cases f with
    | ret v => exact q
    | brk => exact q
    | next => exact fin q
    | cont => exact fin q
end
end Mine
-- text X1
namespace Mine
open PySem.Calls PySem.Spec
set_option maxRecDepth 100000
set_option maxHeartbeats 8000000
def ItemsAt (h : Heap) (l : Addr) (its : List (Nat × Nat × Bool)) : Prop :=
  ∃ vs : List Value, h.IsList l vs.toArray ∧ vs.length = its.length ∧ ∀ (i : Nat) v, vs[i]? = some v → ∃ T w n b t1 t2, its[i]? = some (w, n, b) ∧ v = .ref T ∧ IsTup h T #[.int (w : Nat) t1, .int (n : Nat) t2, .bool b]
def octs : Nat × Nat × Bool → List Nat
  | (w, n, b) => (if 3 ≤ w then [64 + n / 4096 % 64] else []) ++ (if 2 ≤ w then [64 + n / 64 % 64] else []) ++ [n % 64 + if b then 128 else 0]
def textOf (its : List (Nat × Nat × Bool)) : List Nat := its.flatMap octs
def ItemOk (it : Nat × Nat × Bool) : Prop := (it.1 = 1 ∨ it.1 = 2 ∨ it.1 = 3) ∧ it.2.1 < 64 ^ it.1
theorem octs_len (it : Nat × Nat × Bool) : (octs it).length ≤ 3 := by
  obtain ⟨w, n, b⟩ := it
  unfold octs
  by_cases h3 : 3 ≤ w <;> by_cases h2 : 2 ≤ w <;> simp [h3, h2]
theorem textOf_len : ∀ its, (textOf its).length ≤ 3 * its.length
  | [] => by simp [textOf]
  | it :: r => by
    have := textOf_len r
    have := octs_len it
    unfold textOf at *
    simp only [List.flatMap_cons, List.length_append, List.length_cons]
    omega
theorem textOf_snoc {its : List (Nat × Nat × Bool)} {i : Nat} {it : Nat × Nat × Bool} (h : its[i]? = some it) : textOf (its.take (i + 1)) = textOf (its.take i) ++ octs it := by
  unfold textOf
  rw [List.take_add_one, h]
  simp
theorem joinL_one : ∀ l : List Nat, joinL (ch (Str.ofString "")) (l.map fun c => [c]) = l
  | [] => rfl
  | [_] => rfl
  | a :: b :: r => by
    have e : ch (Str.ofString "") = [] := by decide +kernel
    have := joinL_one (b :: r)
    rw [e] at *
    show [a] ++ [] ++ joinL [] ((b :: r).map fun c => [c]) = a :: b :: r
    rw [this]; rfl
section
variable {ps : List (Str × Tok)} {its : List (Nat × Nat × Bool)} {i : Nat} {it : Nat × Nat × Bool} {a b d : Nat} {t t' t'' : Tok}
theorem hp1 (hP : chp ps = (textOf (its.take i)).map fun c => [c]) (hit : its[i]? = some it) (h : octs it = [a]) : chp (ps ++ [(⟨#[a]⟩, t)]) = (textOf (its.take (i + 1))).map fun c => [c] := by
  rw [textOf_snoc hit, h, List.map_append, ← hP]; simp [chp, ch]
theorem hp2 (hP : chp ps = (textOf (its.take i)).map fun c => [c]) (hit : its[i]? = some it) (h : octs it = [a, b]) : chp (ps ++ [(⟨#[a]⟩, t)] ++ [(⟨#[b]⟩, t')]) = (textOf (its.take (i + 1))).map fun c => [c] := by
  rw [textOf_snoc hit, h, List.map_append, ← hP]; simp [chp, ch]
theorem hp3 (hP : chp ps = (textOf (its.take i)).map fun c => [c]) (hit : its[i]? = some it) (h : octs it = [a, b, d]) : chp (ps ++ [(⟨#[a]⟩, t)] ++ [(⟨#[b]⟩, t')] ++ [(⟨#[d]⟩, t'')]) = (textOf (its.take (i + 1))).map fun c => [c] := by
  rw [textOf_snoc hit, h, List.map_append, ← hP]; simp [chp, ch]
end
theorem fmodN (n m : Nat) : (n : Int).fmod (m : Int) = ((n % m : Nat) : Int) := by
  rw [Int.fmod_eq_emod_of_nonneg _ (Int.natCast_nonneg m)]; rfl
theorem fdivN (n m : Nat) : (n : Int).fdiv (m : Int) = ((n / m : Nat) : Int) := by
  rw [Int.fdiv_eq_ediv_of_nonneg _ (Int.natCast_nonneg m)]; rfl
theorem m64 (n : Nat) : (n : Int).fmod 64 = ((n % 64 : Nat) : Int) := fmodN n 64
theorem dig (n k : Nat) : (64 + ((n : Int).fdiv (64 ^ k)).fmod 64).toNat = 64 + n / 64 ^ k % 64 := by
  rw [show ((64 : Int) ^ k) = ((64 ^ k : Nat) : Int) by simp, fdivN, m64]; omega
theorem lastT (n : Nat) : ((n : Int).fmod 64 + 128).toNat = n % 64 + 128 := by rw [m64]; omega
theorem lastF (n : Nat) : ((n : Int).fmod 64 + 0).toNat = n % 64 := by rw [m64]; omega
section
variable {w : World} {p : Program} {loose : List Str} {mean : ExcName → Option Value} {mg mb : Str → Option Value}
section
local macro_rules | `(tactic| walk_at $k:str) => do
  if ["exec For Tuple", "exec For", "Turn", "call builtin:str.join"].contains k.getString then `(tactic| refine Stop.out ?_) else Lean.Macro.throwUnsupported
local macro_rules | `(tactic| walk_at "storeName") => `(tactic| (dsimp only; walk_at "storeName"))
local macro_rules | `(tactic| walk_at "call builtin:list.append") => `(tactic| ((try dsimp only [List.cons_append, List.nil_append]); (k_dflt (refine append_K (by k_asm) (by k_asm) (by k_upd) ?_ (by simp only [List.size_toArray, strValues, List.length_map, List.length_append, List.length_singleton, PySem.sizeLine_eq]; omega))); intro h' F' N'; (try rw [push_strs] at N'); (try dsimp only)))
local macro_rules | `(tactic| walk_at "UnrEnd") => `(tactic| (k_dflt (refine ⟨_, _, _, [_, _], rfl, (by assumption), (by assumption), (List.forall_mem_cons.mpr ⟨(by k_ne), List.forall_mem_cons.mpr ⟨(by k_ne), List.forall_mem_nil _⟩⟩), ?_⟩)))
local macro_rules | `(tactic| walk_at "mine same") => `(tactic| (intro z h1 h2 h3; clear h2; (simp only [List.contains_cons, List.contains_nil, Bool.or_false, Bool.or_eq_false_iff, beq_eq_false_iff_ne, ne_eq] at h3); (simp [h1, h3]) <;> (intro a b; exact absurd a b)))
local macro_rules | `(tactic| walk_at "mine turn") => `(tactic| (
  (refine turn_next (_, _) (by assumption) (by assumption) (by (intro p hp; rw [List.mem_singleton.mp hp]; k_mem)) (by (intro p hp; rw [List.mem_singleton.mp hp]; k_mem)) (by (intro p hp b hb; rw [List.mem_singleton.mp hp]; rw [List.mem_singleton.mp hb]; assumption)) (by (refine List.forall_mem_cons.mpr ⟨?_, List.forall_mem_nil _⟩; (dsimp only; exact rfl))) (by walk_at "mine same") ?hp)))
theorem text_cl (l : Addr) (its : List (Nat × Nat × Bool)) :
   Cl PySem.Challenge.rw_ny0161_01.row.prog w (Mine.hdK w.params) p loose mean mg mb 86 0 (fun h => its.length ≤ 100 ∧ (∀ it ∈ its, ItemOk it) ∧ ItemsAt h l its) [.ref l] (fun v nw => nw = [] ∧ ∃ z t', v = .str z t' ∧ ch z = textOf its) := by
  k_fill
  refine Cl.intro (binds := [(Str.ofString "items", .ref l)]) (by k_is) (by k_is) (fun s X => BindsTo.of_eq rfl) (locs rfl) rfl rfl rfl (by decide) ?_
  intro dp un gd outer A₀ base g L' s B F N X T hx hdp hun
  obtain ⟨hlen, hok, vs, hl, hvl, hvs⟩ := hx
  try k_fold
  k_steps
  unfold Stop
  rename_i l' h1 l1 h2 F2 N2
  refine for3 (σ := List (Str × Tok) × Nat) (l := l) (vs := vs) (fun i va vb vc => ∃ (w n : Nat) (b : Bool) (t1 t2 : Tok), its[i]? = some (w, n, b) ∧ va = .int w t1 ∧ vb = .int n t2 ∧ vc = .bool b)
    (fun c => [(l', listOf (strValues c.1).toArray c.2)]) (fun c => [(Str.ofString "signs", .ref l')]) ["width", "number", "shielded", "k"] (fun i c => chp c.1 = (textOf (its.take i)).map fun c => [c]) ([], 0)
    rfl rfl rfl rfl rfl (by decide) (by decide) (by decide) (fun Q' hq => by k_steps; exact hq) hl (fun i v hv => by
      obtain ⟨T, w, n, b, t1, t2, hi, rfl, ht⟩ := hvs i v hv
      exact ⟨T, _, _, _, rfl, ht, w, n, b, t1, t2, hi, rfl, rfl, rfl⟩) F2 N2 (by intro q hq; rw [List.mem_singleton.mp hq]; exact rfl) rfl (fun i va vb vc c u h3 tk3 I oI hi hX hoff hP F3 N3 => ?_) (fun c u h3 tk3 hP F3 N3 => ?_)
  · clear F2 N2
    obtain ⟨w', n, b, t1, t2, hit, rfl, rfl, rfl⟩ := hX
    dsimp only [kstB] at F3
    try dsimp only at N3
    have hcl : c.1.length ≤ 300 := by
      have h1 := congrArg List.length hP
      have h2 := textOf_len (its.take i)
      simp only [chp, List.length_map, List.length_take] at h1 h2
      omega
    have hoff : @Ne Nat I l' := hoff l' (by simp)
    simp only [List.cons_append, List.nil_append] at N3
    replace F3 : Fr g L' h3 _ := F3
    replace N3 : News g L' h3 _ := N3
    have hiok := hok _ (List.mem_of_getElem? hit)
    rcases hiok.1 with h | h | h
    · dsimp only at h
      subst h
      k_steps
      · unfold Stop
        walk_at "mine turn"
        case hp => exact hp1 hP hit (by rw [lastT]; subst_vars; rfl)
      · unfold Stop
        walk_at "mine turn"
        case hp => exact hp1 hP hit (by rw [lastF]; subst_vars; rfl)
    · dsimp only at h
      subst h
      k_steps
      · unfold Stop
        walk_at "mine turn"
        case hp => exact hp2 hP hit (by rw [show (1 : Int).toNat = 1 from rfl, dig, lastT]; subst_vars; rfl)
      · unfold Stop
        walk_at "mine turn"
        case hp => exact hp2 hP hit (by rw [show (1 : Int).toNat = 1 from rfl, dig, lastF]; subst_vars; rfl)
      all_goals (exfalso; omega)
    · dsimp only at h
      subst h
      k_steps
      · unfold Stop
        walk_at "mine turn"
        case hp => exact hp3 hP hit (by rw [show (2 : Int).toNat = 2 from rfl, show (1 : Int).toNat = 1 from rfl, dig, dig, lastT]; subst_vars; rfl)
      · unfold Stop
        walk_at "mine turn"
        case hp => exact hp3 hP hit (by rw [show (2 : Int).toNat = 2 from rfl, show (1 : Int).toNat = 1 from rfl, dig, dig, lastF]; subst_vars; rfl)
      all_goals (exfalso; omega)
  · clear F2 N2
    dsimp only [kstB] at F3
    replace F3 : Fr g L' h3 _ := F3
    replace N3 : News g L' h3 _ := N3
    rw [hvl, List.take_length] at hP
    have hcl : c.1.length ≤ 300 := by
      have h1 := congrArg List.length hP
      have h2 := textOf_len its
      simp only [chp, List.length_map] at h1 h2
      omega
    k_steps
    unfold Stop
    refine call_join_N (ps := c.1) (by k_asm) (by k_mem) (by omega) (fun q hq => ?_) (by decide) (fun z t' k hz => ?_)
    · rw [hP] at hq
      obtain ⟨_, _, rfl⟩ := List.mem_map.mp hq
      simp
    · k_steps
      refine ⟨_, _, _, _, rfl, ⟨rfl, z, t', rfl, ?_⟩, F3, News.nil⟩
      rw [hz, hP]
      exact joinL_one _
end
end
end Mine
-- text U1
namespace Mine
open PySem.Calls PySem.Spec
set_option maxRecDepth 100000
set_option maxHeartbeats 8000000
abbrev DS := List Nat × Nat × Nat
def markStep (st : List Nat × Nat) (c : Nat) : List Nat × Nat :=
  if c / 64 % 2 = 0 then (st.1 ++ [st.2 * 64 + c % 64], 0) else (st.1, st.2 * 64 + c % 64)
def lineOf (n : Nat) (b : Bool) : Nat := if (n % 64 = 10 ∨ n % 64 = 13) ∧ b = false then n % 64 else 0
def dueStep (mark : List Nat) (st : DS) (it : Nat × Nat × Bool) : DS :=
  if lineOf it.2.1 it.2.2 = 0 then (st.1 ++ [st.2.1 * 64 ^ it.1 + it.2.1], 0, 0)
  else if st.2.2 = 13 ∧ it.1 = 1 ∧ it.2.1 = 10 ∧ it.2.2 = false then (st.1, st.2.1, lineOf it.2.1 it.2.2)
  else let m := mark.foldl markStep (st.1, (st.2.1 * 64 ^ it.1 + it.2.1) / 64); (m.1, m.2, lineOf it.2.1 it.2.2)
def dueAll (mark : List Nat) (its : List (Nat × Nat × Bool)) : DS := its.foldl (dueStep mark) ([], 0, 0)
def dueF (its : List (Nat × Nat × Bool)) (mark : List Nat) : List Nat := (dueAll mark its).1
theorem due_snoc {its : List (Nat × Nat × Bool)} {i : Nat} {it : Nat × Nat × Bool} {mark : List Nat} (h : its[i]? = some it) : dueAll mark (its.take (i + 1)) = dueStep mark (dueAll mark (its.take i)) it := by
  unfold dueAll
  rw [List.take_add_one, h]; simp
theorem mark_len : ∀ (mark : List Nat) (st : List Nat × Nat), (mark.foldl markStep st).1.length ≤ st.1.length + mark.length
  | [], _ => by simp
  | c :: r, st => by
    have := mark_len r (markStep st c)
    have h : (markStep st c).1.length ≤ st.1.length + 1 := by unfold markStep; split <;> simp
    simp only [List.foldl_cons, List.length_cons]; omega
theorem step_len (mark : List Nat) (st : DS) (it : Nat × Nat × Bool) : (dueStep mark st it).1.length ≤ st.1.length + mark.length + 1 := by
  unfold dueStep
  split
  · simp only [List.length_append, List.length_singleton]; omega
  · split
    · simp only; omega
    · have := mark_len mark (st.1, (st.2.1 * 64 ^ it.1 + it.2.1) / 64)
      simp only at this ⊢; omega
theorem due_len (mark : List Nat) : ∀ (its : List (Nat × Nat × Bool)) (st : DS), (its.foldl (dueStep mark) st).1.length ≤ st.1.length + its.length * (mark.length + 1)
  | [], _ => by simp
  | it :: r, st => by
    have := due_len mark r (dueStep mark st it)
    have := step_len mark st it
    simp only [List.foldl_cons, List.length_cons, Nat.succ_mul]; omega
def Marker : Prop := True
def Keep (P : Prop) : Prop := P
def BoolPost (b : Bool) (s : Shared) (h : Heap) (v : Value) (s' : Shared) : Prop := v = .bool b ∧ ∃ k, s' = { s with heap := h, toks := k }
def IntPost (z : Int) (g : Heap) (L : Addr) (m : Str → Option Value) (led : List (Addr × Obj)) (s : Shared) (v : Value) (s' : Shared) : Prop := ∃ t h' k, v = .int z t ∧ s' = { s with heap := h', toks := k } ∧ Fr g L h' m ∧ News g L h' led
theorem evBool {M : Model} {A : Around} {c : Sem Value} {Q E : Value → Shared → Prop} {s s₀ : Shared} {h : Heap} (b : Bool) (h1 : wpAny M A c (BoolPost b s h) (fun _ _ => False) s₀) (h2 : ∀ k, Q (.bool b) { s with heap := h, toks := k }) : wpAny M A c Q E s₀ :=
  wpAny_mono h1 (fun v s' hv => by obtain ⟨rfl, k, rfl⟩ := hv; exact h2 k) fun _ _ e => e.elim
theorem evInt {M : Model} {A : Around} {c : Sem Value} {Q E : Value → Shared → Prop} {s s₀ : Shared} {g h : Heap} {L : Addr} {m : Str → Option Value} {led : List (Addr × Obj)} (z : Int) (F : Fr g L h m) (N : News g L h led) (h1 : wpAny M A c (IntPost z g L m led s) (fun _ _ => False) s₀)
    (h2 : ∀ t h' k, Fr g L h' m → News g L h' led → Q (.int z t) { s with heap := h', toks := k }) : wpAny M A c Q E s₀ :=
  wpAny_mono h1 (fun v s' hv => by obtain ⟨t, h', k, rfl, rfl, F', N'⟩ := hv; exact h2 t h' k F' N') fun _ _ e => e.elim
def lostB (ln w n : Nat) (b : Bool) : Bool := decide (ln = 13 ∧ w = 1 ∧ n = 10 ∧ b = false)
theorem bp1 {ln w n : Nat} {b : Bool} (h1 : (ln : Int) = 13) (h2 : (w : Int) = 1) (h3 : (n : Int) = 10) : (!b) = lostB ln w n b := by
  unfold lostB; cases b <;> simp <;> omega
theorem bp2 {ln w n : Nat} {b : Bool} (h3 : (n : Int) ≠ 10) : ((n : Int) == 10) = lostB ln w n b := by
  unfold lostB; rw [beq_eq_false_iff_ne.mpr h3]; simp; omega
theorem bp3 {ln w n : Nat} {b : Bool} (h3 : (w : Int) ≠ 1) : ((w : Int) == 1) = lostB ln w n b := by
  unfold lostB; rw [beq_eq_false_iff_ne.mpr h3]; simp; omega
theorem bp4 {ln w n : Nat} {b : Bool} (h3 : (ln : Int) ≠ 13) : ((ln : Int) == 13) = lostB ln w n b := by
  unfold lostB; rw [beq_eq_false_iff_ne.mpr h3]; simp; omega
theorem in1013 (n : Nat) : ([10, 13].any fun x => x == (n : Int).fmod 64) = decide (n % 64 = 10 ∨ n % 64 = 13) := by
  rw [m64, Bool.eq_iff_iff]
  simp only [List.any_cons, List.any_nil, Bool.or_false, Bool.or_eq_true, beq_iff_eq, decide_eq_true_eq]
  omega
theorem lo_t {n : Nat} {b : Bool} (h : b = true) : (0 : Int) = (lineOf n b : Nat) := by subst h; simp [lineOf]
theorem lo_n {n : Nat} {b : Bool} (h : ([10, 13].any fun x => x == (n : Int).fmod 64) = false) : (0 : Int) = (lineOf n b : Nat) := by
  rw [in1013] at h
  unfold lineOf
  rw [if_neg (fun q => by have := q.1; simp at h; omega)]; rfl
theorem lo_y {n : Nat} {b : Bool} (h : ([10, 13].any fun x => x == (n : Int).fmod 64) = true) (hb : b = false) : (n : Int).fmod 64 = (lineOf n b : Nat) := by
  rw [in1013] at h
  unfold lineOf
  rw [if_pos ⟨by simpa using h, hb⟩, m64]
theorem pow_ok {a : Int} {k : Nat} (h : k ≤ 3) : IntMulOk a (64 ^ k) := by
  refine IntMulOk.of_right (intBits_le_64 ?_ ?_)
  all_goals (have : k = 0 ∨ k = 1 ∨ k = 2 ∨ k = 3 := by omega)
  all_goals (rcases this with rfl | rfl | rfl | rfl <;> decide)
theorem mul64_ok {a : Int} : IntMulOk a 64 := IntMulOk.of_right (by decide)
theorem due0 {mark : List Nat} {st : DS} {w n : Nat} {b : Bool} (h : ((lineOf n b : Nat) : Int) = 0) : dueStep mark st (w, n, b) = (st.1 ++ [st.2.1 * 64 ^ w + n], 0, 0) := by
  unfold dueStep; rw [if_pos (by simpa using h)]
theorem dueL {mark : List Nat} {st : DS} {w n : Nat} {b : Bool} (h : ((lineOf n b : Nat) : Int) ≠ 0) (hl : lostB st.2.2 w n b = true) : dueStep mark st (w, n, b) = (st.1, st.2.1, lineOf n b) := by
  unfold dueStep; rw [if_neg (by simpa using h), if_pos (by simpa [lostB] using hl)]
theorem dueM {mark : List Nat} {st : DS} {w n : Nat} {b : Bool} (h : ((lineOf n b : Nat) : Int) ≠ 0) (hl : lostB st.2.2 w n b = false) :
    dueStep mark st (w, n, b) = ((mark.foldl markStep (st.1, (st.2.1 * 64 ^ w + n) / 64)).1, (mark.foldl markStep (st.1, (st.2.1 * 64 ^ w + n) / 64)).2, lineOf n b) := by
  unfold dueStep; rw [if_neg (by simpa using h), if_neg (by intro q; rw [lostB, decide_eq_false_iff_not] at hl; exact hl q)]
section
variable {vs' : List Value} {its : List (Nat × Nat × Bool)} {i wt ln w' n : Nat} {b : Bool} {mark : List Nat} {t : Tok}
theorem hpA (hvi : IntsAre vs' ((dueAll mark (its.take i)).1.map fun (c : Nat) => (c : Int))) (hdue : (dueAll mark (its.take i)).2 = (wt, ln)) (hit : its[i]? = some (w', n, b)) (h0 : ((lineOf n b : Nat) : Int) = 0) :
    ∃ wt1 ln1 : Nat, IntsAre (vs'.toArray.toList.concat (.int ((wt : Int) * 64 ^ ((w' : Int)).toNat + n) t)) ((dueAll mark (its.take (i + 1))).1.map fun (c : Nat) => (c : Int)) ∧ (0 : Int) = wt1 ∧ ((lineOf n b : Nat) : Int) = ln1 ∧ (dueAll mark (its.take (i + 1))).2 = (wt1, ln1) := by
  rw [due_snoc hit, due0 h0]
  refine ⟨0, 0, ?_, rfl, h0, rfl⟩
  rw [List.concat_eq_append, List.map_append, hdue]
  refine IntsAre.append hvi ?_
  have e : ((wt : Int) * 64 ^ ((w' : Int)).toNat + n) = ((wt * 64 ^ w' + n : Nat) : Int) := by simp
  rw [e]
  exact .cons _ _ .nil
theorem hpB (hvi : IntsAre vs' ((dueAll mark (its.take i)).1.map fun (c : Nat) => (c : Int))) (hdue : (dueAll mark (its.take i)).2 = (wt, ln)) (hit : its[i]? = some (w', n, b)) (h0 : ((lineOf n b : Nat) : Int) ≠ 0) (hl : lostB ln w' n b = true) :
    ∃ wt1 ln1 : Nat, IntsAre vs' ((dueAll mark (its.take (i + 1))).1.map fun (c : Nat) => (c : Int)) ∧ (wt : Int) = wt1 ∧ ((lineOf n b : Nat) : Int) = ln1 ∧ (dueAll mark (its.take (i + 1))).2 = (wt1, ln1) := by
  rw [due_snoc hit, dueL h0 (by rw [hdue]; exact hl)]
  exact ⟨wt, lineOf n b, hvi, rfl, rfl, by rw [hdue]⟩
theorem hpC {vs2 : List Value} {wa : Int} (hdue : (dueAll mark (its.take i)).2 = (wt, ln)) (hit : its[i]? = some (w', n, b)) (h0 : ((lineOf n b : Nat) : Int) ≠ 0) (hl : lostB ln w' n b = false)
    (hv : IntsAre vs2 ((mark.foldl markStep ((dueAll mark (its.take i)).1, (wt * 64 ^ w' + n) / 64)).1.map fun (c : Nat) => (c : Int))) (hw : wa = (mark.foldl markStep ((dueAll mark (its.take i)).1, (wt * 64 ^ w' + n) / 64)).2) :
    ∃ wt1 ln1 : Nat, IntsAre vs2 ((dueAll mark (its.take (i + 1))).1.map fun (c : Nat) => (c : Int)) ∧ wa = wt1 ∧ ((lineOf n b : Nat) : Int) = ln1 ∧ (dueAll mark (its.take (i + 1))).2 = (wt1, ln1) := by
  rw [due_snoc hit, dueM h0 (by rw [hdue]; exact hl)]
  rw [hdue]
  exact ⟨_, lineOf n b, hv, hw, rfl, rfl⟩
end
theorem codes_nat (y : Str) : (KStt.codes y).map Int.toNat = ch y := by
  unfold KStt.codes ch
  rw [List.map_map]
  exact (List.map_congr_left (g := _root_.id) fun c _ => Int.toNat_natCast c).trans (List.map_id _)
theorem mk_snoc {pre : List Int} {m : Nat} {st0 : List Nat × Nat} : ((pre ++ [(m : Int)]).map Int.toNat).foldl markStep st0 = markStep ((pre.map Int.toNat).foldl markStep st0) m := by simp
section
variable {pre : List Int} {m wt2 : Nat} {told : List Nat} {st0 : List Nat × Nat} {vs2 : List Value} {t : Tok}
theorem hpD (hst : (pre.map Int.toNat).foldl markStep st0 = (told, wt2)) (hv : Keep (IntsAre vs2 (told.map fun (c : Nat) => (c : Int)))) (h : ((m : Int).fdiv 64).fmod 2 = 0) :
    IntsAre (vs2.toArray.toList.concat (.int ((wt2 : Int) * 64 + (m : Int).fmod 64) t)) ((((pre ++ [(m : Int)]).map Int.toNat).foldl markStep st0).1.map fun (c : Nat) => (c : Int)) ∧ (0 : Int) = (((pre ++ [(m : Int)]).map Int.toNat).foldl markStep st0).2 := by
  rw [mk_snoc, hst]
  have h' : m / 64 % 2 = 0 := by
    rw [show ((m : Int).fdiv 64) = ((m / 64 : Nat) : Int) from fdivN m 64, show (((m / 64 : Nat) : Int).fmod 2) = ((m / 64 % 2 : Nat) : Int) from fmodN _ 2] at h
    omega
  unfold markStep
  rw [if_pos h']
  refine ⟨?_, rfl⟩
  rw [List.concat_eq_append, List.map_append]
  refine IntsAre.append hv ?_
  rw [m64, show ((wt2 : Int) * 64 + ((m % 64 : Nat) : Int)) = ((wt2 * 64 + m % 64 : Nat) : Int) by simp]
  exact .cons _ _ .nil
theorem hpE (hst : (pre.map Int.toNat).foldl markStep st0 = (told, wt2)) (hv : Keep (IntsAre vs2 (told.map fun (c : Nat) => (c : Int)))) (h : ((m : Int).fdiv 64).fmod 2 ≠ 0) :
    IntsAre vs2 ((((pre ++ [(m : Int)]).map Int.toNat).foldl markStep st0).1.map fun (c : Nat) => (c : Int)) ∧ ((wt2 : Int) * 64 + (m : Int).fmod 64) = (((pre ++ [(m : Int)]).map Int.toNat).foldl markStep st0).2 := by
  rw [mk_snoc, hst]
  have h' : ¬ m / 64 % 2 = 0 := by
    rw [show ((m : Int).fdiv 64) = ((m / 64 : Nat) : Int) from fdivN m 64, show (((m / 64 : Nat) : Int).fmod 2) = ((m / 64 % 2 : Nat) : Int) from fmodN _ 2] at h
    omega
  unfold markStep
  rw [if_neg h']
  refine ⟨hv, ?_⟩
  rw [m64]; simp
end
theorem fdiv64 (wt w' n : Nat) : ((wt : Int) * 64 ^ ((w' : Int)).toNat + n).fdiv 64 = (((wt * 64 ^ w' + n) / 64 : Nat) : Int) := by
  have e : ((wt : Int) * 64 ^ ((w' : Int)).toNat + n) = ((wt * 64 ^ w' + n : Nat) : Int) := by simp
  rw [e]; exact fdivN _ 64
section
variable {w : World} {p : Program} {loose : List Str} {mean : ExcName → Option Value} {mg mb : Str → Option Value}
section
local macro_rules | `(tactic| walk_at $k:str) => do
  if ["exec For Tuple", "pyIter str", "Turn", "InvEndN"].contains k.getString then `(tactic| refine Stop.out ?_) else Lean.Macro.throwUnsupported
local macro_rules | `(tactic| walk_at "storeName") => `(tactic| (dsimp only; walk_at "storeName"))
local macro_rules | `(tactic| walk_at "binaryOp Pow int int") => `(tactic| k_dflt (refine pow_int_small (by omega) (by omega) (by decide) ?_))
local macro_rules | `(tactic| walk_at "call builtin:list.append") => `(tactic| ((try dsimp only [List.cons_append, List.nil_append]); (k_dflt (refine append_K (by k_asm) (by k_asm) (by k_upd) ?_ (by simp only [List.size_toArray, PySem.sizeLine_eq]; omega))); intro h' F' N'; (try dsimp only)))
local macro_rules | `(tactic| walk_at "eval BoolOp") => `(tactic| ((have mk' : Marker := by with_reducible assumption); clear mk'; refine Stop.out ?_))
local macro_rules | `(tactic| walk_at "eval IfExp") => `(tactic| ((have mk' : Marker := by with_reducible assumption); clear mk'; refine Stop.out ?_))
local macro_rules | `(tactic| walk_at "binaryOp Mult int int") => `(tactic| k_dflt (refine mul_int ?_ (by first | exact mul64_ok | exact pow_ok (by omega))))
local macro_rules | `(tactic| walk_at "mine same") => `(tactic| (intro z h1 h2 h3; (simp only [List.forall_mem_cons, List.not_mem_nil, false_implies, implies_true, and_true, ne_eq] at h2); (simp only [List.contains_cons, List.contains_nil, Bool.or_false, Bool.or_eq_false_iff, beq_eq_false_iff_ne, ne_eq] at h3); simp [h1, h2, h3]))
local macro_rules | `(tactic| walk_at "mine turn") => `(tactic| (
  (refine turn_next (_, _, _, _, _, _) (by assumption) (by assumption) (by (intro p hp; rw [List.mem_singleton.mp hp]; k_mem)) (by (intro p hp; rw [List.mem_singleton.mp hp]; k_mem)) (by (intro p hp b hb; rw [List.mem_singleton.mp hp]; rw [List.mem_singleton.mp hb]; assumption)) (by (refine List.forall_mem_cons.mpr ⟨?_, List.forall_mem_cons.mpr ⟨?_, List.forall_mem_cons.mpr ⟨?_, List.forall_mem_nil _⟩⟩⟩ <;> (dsimp only; exact rfl))) (by walk_at "mine same") ?hp)))
local macro_rules | `(tactic| walk_at "mine kst") => `(tactic| (
  (refine kst_end (_, _, _, _) (by assumption) (by assumption) (by (dsimp only; k_allIn)) (by (intro p hp; k_ownIn)) (by rfl) trivial (by (refine List.forall_mem_cons.mpr ⟨?_, List.forall_mem_cons.mpr ⟨?_, List.forall_mem_nil _⟩⟩ <;> (dsimp only; exact rfl))) (by walk_at "mine same") ?hp)))
theorem due_cl (l : Addr) (its : List (Nat × Nat × Bool)) (y : Str) (t : Tok) :
   Cl PySem.Challenge.rw_ny0161_01.row.prog w (Mine.hdK w.params) p loose mean mg mb 98 0 (fun h => its.length ≤ 100 ∧ y.length ≤ 10 ∧ (∀ it ∈ its, ItemOk it) ∧ ItemsAt h l its) [.ref l, .str y t] (fun v nw => ∃ l n vs, v = .ref l ∧ nw = [(l, listOf vs.toArray n)] ∧ IntsAre vs ((dueF its (ch y)).map fun (c : Nat) => (c : Int))) := by
  k_fill
  refine Cl.intro (binds := [(Str.ofString "items", .ref l), (Str.ofString "mark", .str y t)]) (by k_is) (by k_is) (fun s X => BindsTo.of_eq rfl) (locs rfl) rfl rfl rfl (by decide) ?_
  intro dp un gd outer A₀ base g L' s B F N X T hx hdp hun
  obtain ⟨hlen, hy, hok, vs, hl, hvl, hvs⟩ := hx
  try k_fold
  k_steps
  unfold Stop
  rename_i l' h1 l1 h2 tk2 h3 tk3 h4 F4 N4
  refine for3 (σ := List Value × Nat × Int × Tok × Int × Tok) (l := l) (vs := vs) (fun i va vb vc => ∃ (w n : Nat) (b : Bool) (t1 t2 : Tok), its[i]? = some (w, n, b) ∧ va = .int w t1 ∧ vb = .int n t2 ∧ vc = .bool b)
    (fun c => [(l', listOf c.1.toArray c.2.1)]) (fun c => [(Str.ofString "told", .ref l'), (Str.ofString "waits", .int c.2.2.1 c.2.2.2.1), (Str.ofString "line", .int c.2.2.2.2.1 c.2.2.2.2.2)]) ["width", "number", "shielded", "sign", "lost"]
    (fun i c => ∃ wt ln : Nat, IntsAre c.1 ((dueAll (ch y) (its.take i)).1.map fun (c : Nat) => (c : Int)) ∧ c.2.2.1 = wt ∧ c.2.2.2.2.1 = ln ∧ (dueAll (ch y) (its.take i)).2 = (wt, ln)) ([], 0, 0, tk2, 0, tk3)
    rfl rfl rfl rfl rfl (by decide) (by decide) (by decide) (fun Q' hq => by k_steps; exact hq) hl (fun i v hv => by
      obtain ⟨T, w, n, b, t1, t2, hi, rfl, ht⟩ := hvs i v hv
      exact ⟨T, _, _, _, rfl, ht, w, n, b, t1, t2, hi, rfl, rfl, rfl⟩) F4 N4 (by refine List.forall_mem_cons.mpr ⟨?_, List.forall_mem_cons.mpr ⟨?_, List.forall_mem_cons.mpr ⟨?_, List.forall_mem_nil _⟩⟩⟩ <;> exact rfl) ⟨0, 0, .nil, rfl, rfl, rfl⟩ (fun i va vb vc c u h3 tk3 I oI hi hX hoff hP F3 N3 => ?_) (fun c u h3 tk3 hP F3 N3 => ?_)
  · clear F4 N4
    obtain ⟨w', n, b, t1, t2, hit, rfl, rfl, rfl⟩ := hX
    obtain ⟨vs', k, wa, ta, la, tl⟩ := c
    obtain ⟨wt, ln, hvi, hwt, hln, hdue⟩ := hP
    dsimp only at hvi hwt hln
    subst hwt hln
    dsimp only [kstB] at F3
    try dsimp only at N3
    have hcl : vs'.length ≤ 1100 := by
      have h1 := hvi.length
      have h2 := due_len (ch y) (its.take i) ([], 0, 0)
      have h3 := ch_len y
      have h4 : (its.take i).length * ((ch y).length + 1) ≤ 100 * 11 := Nat.mul_le_mul (by rw [List.length_take]; omega) (by omega)
      simp only [List.length_map] at h1
      unfold dueAll at h1
      simp only [List.length_nil] at h2
      omega
    have hoff : @Ne Nat I l' := hoff l' (by simp)
    simp only [List.cons_append, List.nil_append] at N3
    replace F3 : Fr g L' h3 _ := F3
    replace N3 : News g L' h3 _ := N3
    have hiok := hok _ (List.mem_of_getElem? hit)
    have hw : 1 ≤ w' ∧ w' ≤ 3 := by rcases hiok.1 with h | h | h <;> (dsimp only at h; omega)
    have mk : Marker := True.intro
    have hvi : Keep (IntsAre vs' ((dueAll (ch y) (its.take i)).1.map fun (c : Nat) => (c : Int))) := hvi
    k_steps
    unfold Stop
    refine evBool (s := s) (h := h3) (lostB ln w' n b) ?_ (fun k1 => ?_)
    · clear mk
      k_steps
      · exact ⟨congrArg Value.bool (bp1 (by with_reducible assumption) (by with_reducible assumption) (by with_reducible assumption)), _, rfl⟩
      · exact ⟨congrArg Value.bool (bp2 (by with_reducible assumption)), _, rfl⟩
      · exact ⟨congrArg Value.bool (bp3 (by with_reducible assumption)), _, rfl⟩
      · exact ⟨congrArg Value.bool (bp4 (by with_reducible assumption)), _, rfl⟩
    · k_steps
      unfold Stop
      rename_i h6 F6 N6
      refine evInt (s := s) (lineOf n b) F6 N6 ?_ (fun t7 h7 k7 F7 N7 => ?_)
      · clear mk
        k_steps
        · rename_i F8 N8 _ _ _
          exact ⟨_, _, _, by rw [lo_t (n := n) (b := b) (by with_reducible assumption)], rfl, F8, fun p hp => N8 p (List.mem_cons_of_mem _ hp)⟩
        · rename_i F8 N8 _ _ _
          exact ⟨_, _, _, by rw [lo_y (n := n) (b := b) (by with_reducible assumption) (by with_reducible assumption)], rfl, F8, fun p hp => N8 p (List.mem_cons_of_mem _ hp)⟩
        · rename_i F8 N8 _ _
          exact ⟨_, _, _, by rw [lo_n (n := n) (b := b) (by with_reducible assumption)], rfl, F8, fun p hp => N8 p (List.mem_cons_of_mem _ hp)⟩
      · clear F6 N6
        k_steps
        · unfold Stop
          walk_at "mine turn"
          case hp => exact hpA hvi hdue hit (by with_reducible assumption)
        · unfold Stop
          walk_at "mine turn"
          case hp => exact hpB hvi hdue hit (by with_reducible assumption) (by with_reducible assumption)
        · unfold Stop
          have h0 : ((lineOf n b : Nat) : Int) ≠ 0 := by with_reducible assumption
          have hlo : lostB ln w' n b = false := by with_reducible assumption
          rename_i h8 F8 N8
          refine KStt.kst_text (σ := List Value × Nat × Int × Tok) (fun c => [(l', listOf c.1.toArray c.2.1), (I, oI)]) (fun c => [(Str.ofString "told", .ref l'), (Str.ofString "waits", .int c.2.2.1 c.2.2.2)]) (fun _ => True) []
            (fun pre c => IntsAre c.1 (((pre.map Int.toNat).foldl markStep ((dueAll (ch y) (its.take i)).1, (wt * 64 ^ w' + n) / 64)).1.map fun (c : Nat) => (c : Int)) ∧ c.2.2.1 = ((pre.map Int.toNat).foldl markStep ((dueAll (ch y) (its.take i)).1, (wt * 64 ^ w' + n) / 64)).2)
            (vs', k, ((wt : Int) * 64 ^ ((w' : Int)).toNat + n).fdiv 64, _) rfl F8 N8 trivial (by refine List.forall_mem_cons.mpr ⟨?_, List.forall_mem_cons.mpr ⟨?_, List.forall_mem_nil _⟩⟩ <;> exact rfl) ⟨hvi, fdiv64 wt w' n⟩ (fun c pre post m t9 u9 h9 tk9 own hcod hown _ hP9 F9 N9 => ?_) (fun c u9 h9 tk9 _ hP9 F9 N9 => ?_)
          · clear F8 N8
            obtain ⟨vs2, k2, wa2, ta2⟩ := c
            obtain ⟨hv2, hw2⟩ := hP9
            dsimp only at hv2 hw2
            dsimp only [kstB] at F9
            simp only [List.map_cons, List.map_nil] at hown
            try dsimp only at N9
            have hcl2 : vs2.length ≤ 1110 := by
              have h1 := hv2.length
              have h2 := mark_len (pre.map Int.toNat) ((dueAll (ch y) (its.take i)).1, (wt * 64 ^ w' + n) / 64)
              have h3 := congrArg List.length hcod
              have h4 := KStt.codes_length y
              have h5 := (show IntsAre _ _ from hvi).length
              simp only [List.length_map, List.length_append, List.length_cons] at h1 h2 h3 h5
              omega
            generalize hst : (pre.map Int.toNat).foldl markStep ((dueAll (ch y) (its.take i)).1, (wt * 64 ^ w' + n) / 64) = st at hv2 hw2
            obtain ⟨told, wt2⟩ := st
            dsimp only at hw2
            subst hw2
            clear mk
            replace F9 : Fr g L' h9 _ := F9
            replace N9 : News g L' h9 _ := N9
            have hv2 : Keep (IntsAre vs2 (told.map fun (c : Nat) => (c : Int))) := hv2
            k_steps
            · unfold Stop
              walk_at "mine kst"
              case hp => exact hpD hst hv2 (by with_reducible assumption)
            · unfold Stop
              walk_at "mine kst"
              case hp => exact hpE hst hv2 (by with_reducible assumption)
          · clear F8 N8
            obtain ⟨vs2, k2, wa2, ta2⟩ := c
            obtain ⟨hv2, hw2⟩ := hP9
            dsimp only at hv2 hw2
            rw [codes_nat] at hv2 hw2
            dsimp only [kstB] at F9
            try dsimp only at N9
            replace F9 : Fr g L' h9 _ := F9
            replace N9 : News g L' h9 _ := N9
            have hv2 : Keep (IntsAre vs2 _) := hv2
            k_steps
            unfold Stop
            walk_at "mine turn"
            case hp => exact hpC hdue hit h0 hlo hv2 hw2
  · clear F4 N4
    obtain ⟨vs', k, wa, ta, la, tl⟩ := c
    obtain ⟨wt, ln, hvi, hwt, hln, hdue⟩ := hP
    dsimp only [kstB] at F3
    replace F3 : Fr g L' h3 _ := F3
    replace N3 : News g L' h3 _ := N3
    k_steps
    rw [hvl, List.take_length] at hvi
    exact ⟨_, _, _, _, rfl, ⟨l', k, vs', rfl, rfl, hvi⟩, F3, N3⟩
end
end
end Mine
-- text PB
namespace Mine
/-- the row's octets with each line end (13 10, 13, 10) replaced; cr: a bare 13 stands just ahead -/
def subS (mark : List Nat) : Bool → List Nat → List Nat
  | _, [] => []
  | cr, c :: r => if c = 13 then mark ++ subS mark true r else if c = 10 then (if cr then subS mark false r else mark ++ subS mark false r) else c :: subS mark false r
def rd : Nat → List Nat → List Nat
  | _, [] => []
  | v, b :: r => if b / 64 % 2 = 1 then rd (v * 64 + b % 64) r else (v * 64 + b % 64) :: rd 0 r
theorem rd_readV : ∀ (l : List Nat) (v : Nat), rd v l = match readV v l with | none => [] | some (x, r) => x :: rd 0 r
  | [], v => rfl
  | b :: r, v => by
    rw [rd, readV]
    split
    · exact rd_readV r _
    · rfl
theorem readAll_rd : ∀ (n : Nat) (l : List Nat), l.length ≤ n → readAll l = rd 0 l := by
  intro n
  induction n with
  | zero => intro l h; have : l = [] := List.length_eq_zero_iff.mp (by omega); subst this; rw [readAll_none rfl]; rfl
  | succ n ih =>
    intro l h
    rw [rd_readV]
    cases e : readV 0 l with
    | none => rw [readAll_none e]
    | some x =>
      obtain ⟨v, r⟩ := x
      have h1 := readV_len e
      dsimp only at h1
      rw [readAll_some e]
      dsimp only
      rw [ih r (by omega)]
theorem rd_mark : ∀ (mark rest : List Nat) (told : List Nat) (v : Nat), told ++ rd v (mark ++ rest) = (mark.foldl markStep (told, v)).1 ++ rd (mark.foldl markStep (told, v)).2 rest
  | [], rest, told, v => rfl
  | c :: r, rest, told, v => by
    rw [List.cons_append, rd, List.foldl_cons]
    by_cases h : c / 64 % 2 = 0
    · rw [if_neg (by omega), show markStep (told, v) c = (told ++ [v * 64 + c % 64], 0) by unfold markStep; rw [if_pos h], ← rd_mark]
      simp
    · rw [if_pos (by omega), show markStep (told, v) c = (told, v * 64 + c % 64) by unfold markStep; rw [if_neg h], ← rd_mark]
/-- one digit -/
theorem rd_dig {mark : List Nat} {cr : Bool} {d v : Nat} {r : List Nat} (hd : d < 64) : rd v (subS mark cr ((64 + d) :: r)) = rd (v * 64 + d) (subS mark false r) := by
  rw [subS, if_neg (by omega), if_neg (by omega), rd, if_pos (by omega)]
  congr 1; omega
def digs (w n : Nat) : List Nat := (if 3 ≤ w then [64 + n / 4096 % 64] else []) ++ (if 2 ≤ w then [64 + n / 64 % 64] else [])
theorem octs_eq (w n : Nat) (b : Bool) : octs (w, n, b) = digs w n ++ [n % 64 + if b then 128 else 0] := rfl
theorem rd_digs {mark : List Nat} {cr : Bool} {v w n : Nat} {r : List Nat} (h : ItemOk (w, n, b)) : rd v (subS mark cr (digs w n ++ r)) = rd ((v * 64 ^ w + n) / 64) (subS mark (cr && decide (w = 1)) r) := by
  obtain ⟨hw, hn⟩ := h
  dsimp only at hw hn
  rcases hw with rfl | rfl | rfl
  · have e : (v * 64 ^ 1 + n) / 64 = v := by omega
    rw [e]; simp [digs]
  · have e : (v * 64 ^ 2 + n) / 64 = v * 64 + n / 64 % 64 := by omega
    rw [e]
    show rd v (subS mark cr ((64 + n / 64 % 64) :: r)) = _
    rw [rd_dig (Nat.mod_lt _ (by decide))]; simp
  · have e : (v * 64 ^ 3 + n) / 64 = (v * 64 + n / 4096 % 64) * 64 + n / 64 % 64 := by omega
    rw [e]
    show rd v (subS mark cr ((64 + n / 4096 % 64) :: (64 + n / 64 % 64) :: r)) = _
    rw [rd_dig (Nat.mod_lt _ (by decide)), rd_dig (Nat.mod_lt _ (by decide))]; simp
theorem due_rd (mark : List Nat) : ∀ (its : List (Nat × Nat × Bool)) (st : DS), (∀ it ∈ its, ItemOk it) → (its.foldl (dueStep mark) st).1 = st.1 ++ rd st.2.1 (subS mark (decide (st.2.2 = 13)) (textOf its)) := by
  intro its
  induction its with
  | nil => intro st _; simp [textOf, subS, rd]
  | cons it r ih =>
    intro st hok
    obtain ⟨w, n, b⟩ := it
    obtain ⟨told, wt, ln⟩ := st
    have hit := hok _ List.mem_cons_self
    have hr : ∀ it ∈ r, ItemOk it := fun it h => hok it (List.mem_cons_of_mem _ h)
    rw [List.foldl_cons, ih _ hr]
    rw [show textOf ((w, n, b) :: r) = octs (w, n, b) ++ textOf r from rfl, octs_eq, List.append_assoc, rd_digs (b := b) hit, List.singleton_append]
    dsimp only
    have hw := hit.1
    have hn := hit.2
    dsimp only at hw hn
    by_cases h0 : lineOf n b = 0
    · rw [due0 (by rw [h0]; rfl)]
      dsimp only
      have hne : ¬ (n % 64 + (if b = true then 128 else 0)) = 13 ∧ ¬ (n % 64 + (if b = true then 128 else 0)) = 10 := by
        cases b with
        | true => constructor <;> simp <;> omega
        | false =>
          unfold lineOf at h0
          by_cases hq : n % 64 = 10 ∨ n % 64 = 13
          · rw [if_pos ⟨hq, rfl⟩] at h0; omega
          · simp; omega
      rw [subS, if_neg hne.1, if_neg hne.2, rd, if_neg (by cases b <;> simp <;> omega), List.append_assoc]
      congr 1
      have e : (wt * 64 ^ w + n) / 64 * 64 + (n % 64 + if b = true then 128 else 0) % 64 = wt * 64 ^ w + n := by
        have h1 : (n % 64 + if b = true then 128 else 0) % 64 = n % 64 := by cases b <;> simp <;> omega
        have h2 : (wt * 64 ^ w + n) % 64 = n % 64 := by
          rcases hw with rfl | rfl | rfl <;> omega
        rw [h1]; omega
      rw [e]; rfl
    · have hb : b = false ∧ (n % 64 = 10 ∨ n % 64 = 13) := by
        unfold lineOf at h0
        by_cases hq : (n % 64 = 10 ∨ n % 64 = 13) ∧ b = false
        · exact ⟨hq.2, hq.1⟩
        · rw [if_neg hq] at h0; exact absurd rfl h0
      obtain ⟨rfl, hq⟩ := hb
      have hl : lineOf n false = n % 64 := by unfold lineOf; rw [if_pos ⟨hq, rfl⟩]
      by_cases hlo : lostB ln w n false = true
      · rw [dueL (by simpa using h0) hlo]
        simp only [lostB, decide_eq_true_eq] at hlo
        obtain ⟨rfl, rfl, rfl, _⟩ := hlo
        dsimp only
        rw [subS]
        simp [lineOf]
        congr 1; omega
      · have hlo' : lostB ln w n false = false := by simpa using hlo
        rw [dueM (by simpa using h0) hlo']
        dsimp only
        rw [hl, ← rd_mark]
        congr 1
        simp only [Bool.false_eq_true, if_false, Nat.add_zero]
        rw [subS]
        rcases hq with hq | hq
        · rw [if_neg (by omega), if_pos hq]
          have hf : ¬ ((decide (ln = 13) && decide (w = 1)) = true) := by
            intro hc
            simp at hc
            apply hlo
            simp only [lostB, decide_eq_true_eq]
            refine ⟨hc.1, hc.2, ?_, trivial⟩
            obtain ⟨_, rfl⟩ := hc
            omega
          rw [if_neg hf]
          simp [hq]
        · rw [if_pos hq]; simp [hq]
theorem due_read (its : List (Nat × Nat × Bool)) (mark : List Nat) (hok : ∀ it ∈ its, ItemOk it) : readAll (subS mark false (textOf its)) = dueF its mark := by
  rw [readAll_rd _ _ (Nat.le_refl _)]
  have := due_rd mark its ([], 0, 0) hok
  simpa [dueF, dueAll] using this.symm
end Mine
-- text LN
namespace Mine
open PySem.StrLaws PySem.Builtin PySem.Builtin.Str
def isLB (c : Nat) : Bool := Unicode.isLineBreak c
/-- splitlines on a list of signs; cur: the line so far -/
def lnL : List Nat → List Nat → List (List Nat)
  | cur, [] => if cur = [] then [] else [cur]
  | cur, c :: r => if isLB c = true then cur :: (if c = 13 ∧ r.head? = some 10 then lnL [] r.tail else lnL [] r) else lnL (cur ++ [c]) r
termination_by _ l => l.length
decreasing_by all_goals (simp [List.length_tail]; try omega)
theorem lnL_nil (cur : List Nat) : lnL cur [] = if cur = [] then [] else [cur] := by rw [lnL]
theorem lnL_cons (cur : List Nat) (c : Nat) (r : List Nat) : lnL cur (c :: r) = if isLB c = true then cur :: (if c = 13 ∧ r.head? = some 10 then lnL [] r.tail else lnL [] r) else lnL (cur ++ [c]) r := by rw [lnL]
def spanC (x : PySem.Str) (p : Nat × Nat × Nat) : List Nat := ch (strSub x p.1 p.2.1)
theorem sub_ch (x : PySem.Str) (i j : Nat) : ch (strSub x i j) = ((ch x).drop i).take (j - i) := by
  simp [ch, strSub, List.extract_eq_take_drop]
theorem drop_get {x : PySem.Str} {i : Nat} (h : i < x.length) : (ch x).drop i = x.cps.getD i 0 :: (ch x).drop (i + 1) := by
  have hl := ch_len x
  rw [List.drop_eq_getElem_cons (by omega)]
  congr 1
  simp [ch, Array.getD, show i < x.cps.size from h]
theorem next_head {x : PySem.Str} {i : Nat} : (x.cps[i + 1]? == some 10) = decide (((ch x).drop (i + 1)).head? = some 10) := by
  rw [List.head?_drop]
  have : (ch x)[i + 1]? = x.cps[i + 1]? := by simp [ch]
  rw [this, Bool.eq_iff_iff]; simp
theorem ln_run (x : PySem.Str) : ∀ (m cur : Nat) (st : LsSt), cur + m = x.length → st.snd ≤ cur + 1 → (st.snd = cur + 1 → st.snd ≤ x.length) →
    (lsEnd x (Id.run (forIn (m := Id) (List.range' cur m) st (lsBody x)))).map (spanC x) = st.fst.toList.map (spanC x) ++ (if st.snd ≤ cur then lnL (((ch x).drop st.snd).take (cur - st.snd)) ((ch x).drop cur) else lnL [] ((ch x).drop (cur + 1)))
  | 0, cur, (lines, start), hm, h1, h2 => by
    have hl := ch_len x
    have e0 : (ch x).drop cur = [] := List.drop_eq_nil_of_le (by omega)
    show (lsEnd x (lines, start)).map (spanC x) = _
    unfold lsEnd
    dsimp only at h1 h2 ⊢
    have hs : start ≤ cur := by omega
    rw [if_pos hs, e0, lnL_nil]
    by_cases h : start < x.length
    · rw [if_pos h, if_neg]
      · rw [Array.toList_push, List.map_append]
        congr 1
        show [spanC x (start, x.length, x.length)] = _
        unfold spanC
        rw [sub_ch, show cur = x.length by omega]
      · intro q
        have := congrArg List.length q
        simp only [List.length_take, List.length_drop, List.length_nil] at this
        omega
    · rw [if_neg h, if_pos]
      · simp
      · apply List.eq_nil_of_length_eq_zero
        simp only [List.length_take, List.length_drop]; omega
  | m + 1, cur, (lines, start), hm, h1, h2 => by
    have hl := ch_len x
    have hb := lsNext_bounds x cur
    have hcur : cur < x.length := by omega
    rw [List.range'_succ, List.forIn_cons]
    unfold lsBody
    dsimp only at h1 h2 ⊢
    by_cases hc : (decide (start ≤ cur) && Unicode.isLineBreak (x.cps.getD cur 0)) = true
    · have hle : start ≤ cur ∧ Unicode.isLineBreak (x.cps.getD cur 0) = true := by simpa using hc
      simp only [hc, if_true]
      refine (ln_run x m (cur + 1) (lines.push (start, cur, lsNext x cur), lsNext x cur) (by omega) (by dsimp only; omega) ?_).trans ?_
      · dsimp only
        intro q
        unfold lsNext at q
        split at q
        · rename_i hq
          rw [Bool.and_eq_true] at hq
          have := hq.2
          have : x.cps[cur + 1]? = some 10 := by simpa using this
          have hlt := (Array.getElem?_eq_some_iff.mp this).1
          have : cur + 1 < x.length := hlt
          unfold lsNext; split <;> omega
        · omega
      · dsimp only
        rw [if_pos hle.1, drop_get hcur, lnL_cons, if_pos (show isLB (x.cps.getD cur 0) = true from hle.2), Array.toList_push, List.map_append, List.append_assoc]
        congr 1
        have e1 : (([(start, cur, lsNext x cur)] : List (Nat × Nat × Nat)).map (spanC x)) = [((ch x).drop start).take (cur - start)] := by
          simp [spanC, sub_ch]
        rw [e1, List.singleton_append]
        congr 1
        unfold lsNext
        by_cases hq : (x.cps.getD cur 0 == 13 && x.cps[cur + 1]? == some 10) = true
        · rw [if_pos hq, if_neg (by omega), if_pos]
          · rw [List.tail_drop]
          · rw [Bool.and_eq_true, next_head, beq_iff_eq, decide_eq_true_eq] at hq; exact hq
        · rw [if_neg hq, if_pos (Nat.le_refl _), if_neg]
          · simp
          · rw [Bool.and_eq_true, next_head, beq_iff_eq, decide_eq_true_eq] at hq; exact hq
    · simp only [hc, if_false, Bool.false_eq_true]
      refine (ln_run x m (cur + 1) (lines, start) (by omega) (by dsimp only; omega) (by dsimp only; omega)).trans ?_
      dsimp only
      congr 1
      rw [if_pos (by omega)]
      by_cases hs : start ≤ cur
      · have hn : isLB (x.cps.getD cur 0) = false := by
          unfold isLB
          simpa [hs] using hc
        rw [if_pos hs, drop_get hcur, lnL_cons, if_neg (by rw [hn]; exact Bool.false_ne_true)]
        congr 1
        rw [show cur + 1 - start = (cur - start) + 1 by omega, List.take_add_one, List.getElem?_drop, show start + (cur - start) = cur by omega]
        have : (ch x)[cur]? = some (x.cps.getD cur 0) := by simp [ch, Array.getD, show cur < x.cps.size from hcur]
        rw [this]; rfl
      · rw [if_neg hs, show cur + 1 - start = 0 by omega]; simp
theorem lines_ch (x : PySem.Str) : (Txt.lines x).map ch = lnL [] (ch x) := by
  have key := ln_run x x.length 0 ((#[], 0) : LsSt) (by omega) (by decide) (by intro q; cases q)
  rw [← ls_eq] at key
  have e : linesOf x = (lineSpans x).map fun (p : Nat × Nat × Nat) => strSub x p.1 p.2.1 := by
    unfold linesOf lineCuts
    rw [List.map_map]
    apply List.map_congr_left
    intro ⟨i, j, k⟩ _
    rfl
  have k2 : (linesOf x).map ch = lnL [] (ch x) := by
    rw [e, List.map_map]
    have k3 : (lineSpans x).map (spanC x) = lnL [] (ch x) := by simpa using key
    exact k3
  unfold Txt.lines
  split
  · rename_i h
    rw [← k2]
    have hl : linesOf x = [strSub x 0 x.length] := by
      unfold linesOf
      rw [beq_iff_eq.mp h]; rfl
    rw [hl, List.map_cons, List.map_nil, List.map_cons, List.map_nil, sub_ch]
    rw [List.drop_zero, Nat.sub_zero, ← ch_len x, List.take_length]
  · exact k2
end Mine
-- text PA
namespace Mine
def encX (t : List Nat) : List Nat := t.flatMap encC
theorem encX_nil : encX [] = [] := rfl
theorem encX_cons (c : Nat) (t : List Nat) : encX (c :: t) = encC c ++ encX t := rfl
theorem encX_app (s t : List Nat) : encX (s ++ t) = encX s ++ encX t := by simp [encX]
theorem hexDig_ne (d : Nat) (h : d < 16) : hexDig d ≠ 61 ∧ isHex (hexDig d) = true ∧ hexv (hexDig d) = d ∧ isLB (hexDig d) = false ∧ Unicode.isSpace (hexDig d) = false ∧ hexDig d ≠ 10 ∧ hexDig d ≠ 13 ∧ hexDig d ≠ 32 ∧ hexDig d ≠ 9 := by
  have : ∀ d : Fin 16, hexDig d.val ≠ 61 ∧ isHex (hexDig d.val) = true ∧ hexv (hexDig d.val) = d.val ∧ isLB (hexDig d.val) = false ∧ Unicode.isSpace (hexDig d.val) = false ∧ hexDig d.val ≠ 10 ∧ hexDig d.val ≠ 13 ∧ hexDig d.val ≠ 32 ∧ hexDig d.val ≠ 9 := by decide +kernel
  exact this ⟨d, h⟩
theorem encC_plain {c : Nat} (h : plainC c = true) : encC c = [c] := by unfold encC; rw [if_pos h]
theorem encC_quote {c : Nat} (h : plainC c = false) : encC c = quoteL c := by unfold encC quoteL; rw [if_neg (by rw [h]; exact Bool.false_ne_true)]
theorem plain_facts {c : Nat} (hc : c < 256) (h : plainC c = true) : c ≠ 61 ∧ (c ≠ 10 → c ≠ 13 → isLB c = false) ∧ (c ≠ 10 → c ≠ 13 → c ≠ 32 → c ≠ 9 → Unicode.isSpace c = false) := by
  have : ∀ c : Fin 256, plainC c.val = true → c.val ≠ 61 ∧ (c.val ≠ 10 → c.val ≠ 13 → isLB c.val = false) ∧ (c.val ≠ 10 → c.val ≠ 13 → c.val ≠ 32 → c.val ≠ 9 → Unicode.isSpace c.val = false) := by decide +kernel
  exact this ⟨c, hc⟩ h
theorem decL_quote {e r : List Nat} {c : Nat} (hc : c < 256) : decL e (quoteL c ++ r) = c :: (if r = [] then e else decL e r) := by
  have h1 := hexDig_ne (c / 16) (by omega)
  have h2 := hexDig_ne (c % 16) (by omega)
  show decL e (61 :: hexDig (c / 16) :: hexDig (c % 16) :: r) = _
  rw [decL_hex h1.2.1 h2.2.1, h1.2.2.1, h2.2.2.1]
  congr 1; omega
theorem decL_enc {e r : List Nat} {c : Nat} (hc : c < 256) : decL e (encC c ++ r) = c :: (if r = [] then e else decL e r) := by
  by_cases h : plainC c = true
  · rw [encC_plain h, List.singleton_append, decL_plain (plain_facts hc h).1]
  · rw [encC_quote (by simpa using h), decL_quote hc]
theorem encC_ne (c : Nat) : encC c ≠ [] := by unfold encC; split <;> simp
theorem encX_ne {t : List Nat} (h : t ≠ []) : encX t ≠ [] := by
  cases t with
  | nil => exact absurd rfl h
  | cons c r => rw [encX_cons]; intro q; exact encC_ne c (List.append_eq_nil_iff.mp q).1
theorem decL_encX {e s : List Nat} (hs : s ≠ []) : ∀ t : List Nat, (∀ c ∈ t, c < 256) → decL e (encX t ++ s) = t ++ decL e s
  | [], _ => rfl
  | c :: t, h => by
    rw [encX_cons, List.append_assoc, decL_enc (h c List.mem_cons_self), if_neg (by intro q; exact hs (List.append_eq_nil_iff.mp q).2), decL_encX hs t (fun d hd => h d (List.mem_cons_of_mem _ hd))]
    rfl
theorem decL_encX0 {e : List Nat} : ∀ t : List Nat, t ≠ [] → (∀ c ∈ t, c < 256) → decL e (encX t) = t ++ e
  | [], h, _ => absurd rfl h
  | [c], _, h => by
    have := decL_enc (e := e) (r := []) (h c List.mem_cons_self)
    simp [encX] at this ⊢; exact this
  | c :: d :: t, _, h => by
    rw [encX_cons, decL_enc (h c List.mem_cons_self), if_neg (encX_ne (by simp)), decL_encX0 (d :: t) (by simp) (fun x hx => h x (List.mem_cons_of_mem _ hx))]
    rfl
/-- cutting the encoded line -/
theorem tokSplit : ∀ (t : List Nat) (j : Nat), (∀ c ∈ t, c < 256) → j ≤ (encX t).length → (∃ t1 t2, t = t1 ++ t2 ∧ encX t1 = (encX t).take j ∧ encX t2 = (encX t).drop j) ∨
    (((1 ≤ j ∧ (encX t).getD (j - 1) 0 = 61) ∨ (2 ≤ j ∧ (encX t).getD (j - 2) 0 = 61)) ∧ (encX t).getD j 0 ≠ 61)
  | [], j, _, hj => .inl ⟨[], [], rfl, by simp [encX], by simp [encX]⟩
  | c :: t, 0, _, _ => .inl ⟨[], c :: t, rfl, by simp [encX], by simp⟩
  | c :: t, j + 1, h, hj => by
    have hc := h c List.mem_cons_self
    have ht : ∀ d ∈ t, d < 256 := fun d hd => h d (List.mem_cons_of_mem _ hd)
    by_cases hp : plainC c = true
    · rw [encX_cons, encC_plain hp, List.singleton_append] at hj ⊢
      rcases tokSplit t j ht (by simpa using hj) with ⟨t1, t2, rfl, e1, e2⟩ | ⟨h1, h2⟩
      · exact .inl ⟨c :: t1, t2, rfl, by rw [encX_cons, encC_plain hp, e1]; rfl, by rw [e2]; rfl⟩
      · refine .inr ⟨?_, by simpa using h2⟩
        rcases h1 with ⟨a, b⟩ | ⟨a, b⟩
        · left; refine ⟨by omega, ?_⟩
          obtain ⟨i, rfl⟩ : ∃ i, j = i + 1 := ⟨j - 1, by omega⟩
          simpa using b
        · right; refine ⟨by omega, ?_⟩
          obtain ⟨i, rfl⟩ : ∃ i, j = i + 2 := ⟨j - 2, by omega⟩
          simpa using b
    · have hq : encC c = [61, hexDig (c / 16), hexDig (c % 16)] := encC_quote (by simpa using hp)
      have f1 := (hexDig_ne (c / 16) (by omega)).1
      have f2 := (hexDig_ne (c % 16) (by omega)).1
      rw [encX_cons, hq] at hj ⊢
      match j, hj with
      | 0, _ => exact .inr ⟨.inl ⟨by omega, by simp⟩, by simpa using f1⟩
      | 1, _ => exact .inr ⟨.inr ⟨by omega, by simp⟩, by simpa using f2⟩
      | j + 2, hj =>
        rcases tokSplit t j ht (by simp at hj; omega) with ⟨t1, t2, rfl, e1, e2⟩ | ⟨h1, h2⟩
        · exact .inl ⟨c :: t1, t2, rfl, by rw [encX_cons, hq, e1]; rfl, by rw [e2]; rfl⟩
        · refine .inr ⟨?_, by simpa using h2⟩
          rcases h1 with ⟨a, b⟩ | ⟨a, b⟩
          · left; refine ⟨by omega, ?_⟩
            obtain ⟨i, rfl⟩ : ∃ i, j = i + 1 := ⟨j - 1, by omega⟩
            simpa using b
          · right; refine ⟨by omega, ?_⟩
            obtain ⟨i, rfl⟩ : ∃ i, j = i + 2 := ⟨j - 2, by omega⟩
            simpa using b
theorem getD_take {l : List Nat} {j : Nat} (h : j < l.length) : l.take (j + 1) = l.take j ++ [l.getD j 0] := by
  rw [List.take_add_one]; simp [List.getD, h]
/-- the pieces of one line -/
theorem encW_tok (K : Nat) (hK : 3 ≤ K) : ∀ (n : Nat) (t : List Nat), (encX t).length ≤ n → (∀ c ∈ t, c < 256) → ∃ (ts : List (List Nat)) (tl : List Nat), t = ts.flatten ++ tl ∧ (encW K (encX t)).1 = ts.map (fun s => encX s ++ [61]) ∧ (encW K (encX t)).2 = encX tl ∧ (t ≠ [] → tl ≠ []) := by
  intro n
  induction n with
  | zero =>
    intro t hn _
    have : t = [] := by
      cases t with
      | nil => rfl
      | cons c r => exact absurd (List.length_eq_zero_iff.mp (by omega)) (encX_ne (t := c :: r) (by simp))
    subst this
    refine ⟨[], [], rfl, ?_, ?_, fun h => h⟩ <;> (rw [encW_0 (by simp [encX])])
    · rfl
  | succ n ih =>
    intro t hn ht
    by_cases hlen : K + 2 ≤ (encX t).length
    · have step : ∀ (j : Nat) (p : List Nat), j + 2 ≤ (encX t).length → 1 ≤ j → (∃ t1 t2, t = t1 ++ t2 ∧ encX t1 = (encX t).take j ∧ encX t2 = (encX t).drop j) → p = (encX t).take j ++ [61] →
          encW K (encX t) = (p :: (encW K ((encX t).drop j)).1, (encW K ((encX t).drop j)).2) →
          ∃ (ts : List (List Nat)) (tl : List Nat), t = ts.flatten ++ tl ∧ (encW K (encX t)).1 = ts.map (fun s => encX s ++ [61]) ∧ (encW K (encX t)).2 = encX tl ∧ (t ≠ [] → tl ≠ []) := by
        rintro j p hj hj1 ⟨t1, t2, rfl, e1, e2⟩ hp he
        have ht2 : t2 ≠ [] := by
          rintro rfl
          have := congrArg List.length e2
          rw [encX_nil, List.length_drop, List.length_nil] at this
          omega
        obtain ⟨ts, tl, h1, h2, h3, h4⟩ := ih t2 (by rw [e2, List.length_drop]; omega) (fun c hc => ht c (List.mem_append.mpr (.inr hc)))
        refine ⟨t1 :: ts, tl, ?_, ?_, ?_, fun _ => h4 ht2⟩
        · rw [List.flatten_cons, List.append_assoc, ← h1]
        · rw [he, ← e2, h2, hp, ← e1]; rfl
        · rw [he, ← e2, h3]
      by_cases a1 : (encX t).getD (K - 2) 0 = 61
      · refine step (K - 2) _ (by omega) (by omega) ?_ ?_ (encW_1 hlen hK a1)
        · rcases tokSplit t (K - 2) ht (by omega) with h | ⟨_, h⟩
          · exact h
          · exact absurd a1 h
        · rw [show K - 1 = (K - 2) + 1 by omega, getD_take (by omega), a1]
      · by_cases a2 : (encX t).getD (K - 1) 0 = 61
        · refine step (K - 1) _ (by omega) (by omega) ?_ ?_ (encW_2 hlen hK a1 a2)
          · rcases tokSplit t (K - 1) ht (by omega) with h | ⟨_, h⟩
            · exact h
            · exact absurd a2 h
          · rw [show (encX t).take K = (encX t).take ((K - 1) + 1) by congr 1; omega, getD_take (by omega), a2]
        · refine step K _ hlen (by omega) ?_ rfl (encW_3 hlen hK a1 a2)
          rcases tokSplit t K ht (by omega) with h | ⟨h, _⟩
          · exact h
          · rcases h with ⟨_, h⟩ | ⟨_, h⟩
            · exact absurd h a2
            · exact absurd h a1
    · refine ⟨[], t, rfl, ?_, ?_, fun h => h⟩ <;> rw [encW_0 hlen]
      rfl
end Mine
-- text PC
namespace Mine
theorem joinL_app (e : List Nat) : ∀ (a b : List (List Nat)), a ≠ [] → b ≠ [] → joinL e (a ++ b) = joinL e a ++ e ++ joinL e b
  | [], _, h, _ => absurd rfl h
  | [x], [], _, h => absurd rfl h
  | [x], y :: r, _, _ => rfl
  | x :: y :: r, b, _, hb => by
    show x ++ e ++ joinL e (y :: r ++ b) = x ++ e ++ joinL e (y :: r) ++ e ++ joinL e b
    rw [joinL_app e (y :: r) b (by simp) hb]
    simp
theorem joinL_flat (e : List Nat) : ∀ (L : List (List (List Nat))), (∀ q ∈ L, q ≠ []) → joinL e (L.map (joinL e)) = joinL e L.flatten
  | [], _ => rfl
  | [q], _ => by simp [joinL]
  | q :: q' :: r, h => by
    have ih := joinL_flat e (q' :: r) (fun x hx => h x (List.mem_cons_of_mem _ hx))
    show joinL e q ++ e ++ joinL e ((q' :: r).map (joinL e)) = joinL e (q ++ (q' :: r).flatten)
    rw [ih, joinL_app e q _ (h q List.mem_cons_self)]
    intro hn
    rw [List.flatten_cons] at hn
    exact h q' (by simp) (List.append_eq_nil_iff.mp hn).1
abbrev blankLast (l : List Nat) : Prop := l ≠ [] ∧ (l.getD (l.length - 1) 0 = 32 ∨ l.getD (l.length - 1) 0 = 9)
def subLast (k : Nat) (l r : List Nat) : List (List Nat) :=
  if blankLast l then
    (if r.length + 1 ≤ k then [r.take (r.length - 1) ++ quoteL (l.getD (l.length - 1) 0)] else if r.length = k then [r.take (r.length - 1) ++ [l.getD (l.length - 1) 0, 61], []] else [r.take (r.length - 1) ++ [61], quoteL (l.getD (l.length - 1) 0)])
  else [r]
def subLine (k : Nat) (l : List Nat) : List (List Nat) := (encW k l).1 ++ subLast k l (encW k l).2
theorem subLast_ne (k : Nat) (l r : List Nat) : subLast k l r ≠ [] := by
  unfold subLast; split
  · split
    · simp
    · split <;> simp
  · simp
theorem encLast_sub (k : Nat) (e l r : List Nat) : encLast k e l r = joinL e (subLast k l r) := by
  unfold encLast subLast
  by_cases h : blankLast l
  · rw [if_pos h, if_pos h]
    split
    · rfl
    · split
      · simp [joinL]
      · simp [joinL]
  · rw [if_neg h, if_neg h]; rfl
def subsL (k : Nat) (ls : List (List Nat)) : List (List (List Nat)) := (ls.map fun l => (encW k l).1.map (fun p => [p]) ++ [subLast k l (encW k l).2]).flatten
theorem subsL_ne (k : Nat) (ls : List (List Nat)) : ∀ q ∈ subsL k ls, q ≠ [] := by
  intro q hq
  unfold subsL at hq
  obtain ⟨m, hm, hqm⟩ := List.mem_flatten.mp hq
  obtain ⟨l, _, rfl⟩ := List.mem_map.mp hm
  rcases List.mem_append.mp hqm with h | h
  · obtain ⟨p, _, rfl⟩ := List.mem_map.mp h
    simp
  · rw [List.mem_singleton.mp h]; exact subLast_ne _ _ _
theorem subsL_flat (k : Nat) (ls : List (List Nat)) : (subsL k ls).flatten = (ls.map (subLine k)).flatten := by
  unfold subsL subLine
  induction ls with
  | nil => rfl
  | cons l r ih =>
    rw [List.map_cons, List.flatten_cons, List.flatten_append, ih, List.map_cons, List.flatten_cons]
    congr 1
    rw [List.flatten_append]
    congr 1
    · generalize (encW k l).1 = ps
      induction ps with
      | nil => rfl
      | cons a b ih => rw [List.map_cons, List.flatten_cons, ih]; rfl
    · simp
theorem encLine_sub (k : Nat) (e l : List Nat) : encLine k e l = ((encW k l).1.map (fun p => [p]) ++ [subLast k l (encW k l).2]).map (joinL e) := by
  unfold encLine
  rw [List.map_append, encLast_sub, List.map_map]
  congr 1
  exact (List.map_id' _).symm
abbrev closed (x : List Nat) : Prop := x.getD (x.length - 1) 0 = 13 ∨ x.getD (x.length - 1) 0 = 10
/-- the letter's own lines -/
def subs (k : Nat) (x : List Nat) : List (List Nat) := ((lnL [] x).map (subLine k)).flatten ++ (if closed x then [[]] else [])
theorem encF_subs (k : Nat) (e t : List Nat) : encF k e t = joinL e (subs k (encX t)) := by
  unfold encF encPieces
  show joinL e (((Txt.lines ⟨(encX t).toArray⟩).map fun l => encLine k e (ch l)).flatten ++ if closed (encX t) then [[]] else []) = _
  have h1 : ((Txt.lines ⟨(encX t).toArray⟩).map fun l => encLine k e (ch l)) = (lnL [] (encX t)).map fun l => ((encW k l).1.map (fun p => [p]) ++ [subLast k l (encW k l).2]).map (joinL e) := by
    have := lines_ch ⟨(encX t).toArray⟩
    rw [show ch ⟨(encX t).toArray⟩ = encX t by simp [ch]] at this
    rw [← this, List.map_map]
    apply List.map_congr_left
    intro l _
    exact encLine_sub k e (ch l)
  have h2 : ((lnL [] (encX t)).map fun l => ((encW k l).1.map (fun p => [p]) ++ [subLast k l (encW k l).2]).map (joinL e)).flatten = (subsL k (lnL [] (encX t))).map (joinL e) := by
    unfold subsL
    rw [List.map_flatten, List.map_map]
    rfl
  rw [h1, h2]
  have h3 : (subsL k (lnL [] (encX t))).map (joinL e) ++ (if closed (encX t) then [[]] else []) = (subsL k (lnL [] (encX t)) ++ if closed (encX t) then [[[]]] else []).map (joinL e) := by
    rw [List.map_append]; split <;> rfl
  rw [h3, joinL_flat]
  · unfold subs
    rw [List.flatten_append, subsL_flat]
    split <;> rfl
  · intro q hq
    rcases List.mem_append.mp hq with h | h
    · exact subsL_ne _ _ q h
    · split at h
      · rw [List.mem_singleton.mp h]; simp
      · cases h
end Mine
-- text PD
namespace Mine
theorem snoc_of {l : List Nat} (h : l ≠ []) : ∃ a c, l = a ++ [c] := ⟨l.dropLast, l.getLast h, (List.dropLast_concat_getLast h).symm⟩
theorem lnL_app {r : List Nat} : ∀ (s cur : List Nat), (∀ c ∈ s, isLB c = false) → lnL cur (s ++ r) = lnL (cur ++ s) r
  | [], cur, _ => by simp
  | c :: s, cur, h => by
    rw [List.cons_append, lnL_cons, if_neg (by rw [h c List.mem_cons_self]; exact Bool.false_ne_true), lnL_app s _ (fun d hd => h d (List.mem_cons_of_mem _ hd))]
    simp
abbrev EndOk (e : List Nat) : Prop := e = [10] ∨ e = [13, 10] ∨ e = [13]
theorem lb10 : isLB 10 = true := by decide +kernel
theorem lb13 : isLB 13 = true := by decide +kernel
theorem lnL_end {e r cur : List Nat} (he : EndOk e) (hr : e = [13] → r.head? ≠ some 10) : lnL cur (e ++ r) = cur :: lnL [] r := by
  rcases he with rfl | rfl | rfl
  · rw [List.singleton_append, lnL_cons, if_pos lb10, if_neg (by simp)]
  · rw [List.cons_append, lnL_cons, if_pos lb13, if_pos (by simp)]; rfl
  · rw [List.singleton_append, lnL_cons, if_pos lb13, if_neg (fun q => hr rfl q.2)]
def joinLines (pad : List Nat) : List (List Nat) → List (List Nat)
  | [] => []
  | [a] => if a = [] then [] else [a]
  | a :: b :: r => (a ++ pad) :: joinLines pad (b :: r)
theorem head_ne {l r : List Nat} (h : ∀ c ∈ l, c ≠ 10) (hl : l ≠ []) : (l ++ r).head? ≠ some 10 := by
  cases l with
  | nil => exact absurd rfl hl
  | cons a l => intro q; simp at q; exact h a List.mem_cons_self q
theorem not10 {l : List Nat} (h : ∀ c ∈ l, isLB c = false) : ∀ c ∈ l, c ≠ 10 := fun c hc q => by have := h c hc; rw [q, lb10] at this; cases this
theorem join_head {pad : List Nat} (hpad : ∀ c ∈ pad, isLB c = false) : ∀ ps : List (List Nat), (∀ p ∈ ps, ∀ c ∈ p, isLB c = false) → (joinL (pad ++ [13]) ps).head? ≠ some 10
  | [], _ => by simp [joinL]
  | [a], h => by
    show a.head? ≠ some 10
    by_cases ha : a = []
    · subst ha; simp
    · have := head_ne (r := []) (not10 (h a List.mem_cons_self)) ha
      simpa using this
  | a :: b :: r, h => by
    show (a ++ (pad ++ [13]) ++ joinL (pad ++ [13]) (b :: r)).head? ≠ some 10
    refine head_ne ?_ (by simp)
    intro c hc
    rcases List.mem_append.mp hc with hc | hc
    · exact not10 (h a List.mem_cons_self) c hc
    · rcases List.mem_append.mp hc with hc | hc
      · exact not10 hpad c hc
      · rw [List.mem_singleton.mp hc]; decide
theorem lnL_join {e pad : List Nat} (he : EndOk e) (hpad : ∀ c ∈ pad, isLB c = false) : ∀ ps : List (List Nat), (∀ p ∈ ps, ∀ c ∈ p, isLB c = false) → lnL [] (joinL (pad ++ e) ps) = joinLines pad ps
  | [], _ => by simp [joinL, joinLines, lnL_nil]
  | [a], h => by
    show lnL [] a = if a = [] then [] else [a]
    have := lnL_app (r := []) a [] (h a List.mem_cons_self)
    rw [List.append_nil] at this
    rw [this, lnL_nil]; simp
  | a :: b :: r, h => by
    have ht : ∀ p ∈ b :: r, ∀ c ∈ p, isLB c = false := fun p hp => h p (List.mem_cons_of_mem _ hp)
    show lnL [] (a ++ (pad ++ e) ++ joinL (pad ++ e) (b :: r)) = (a ++ pad) :: joinLines pad (b :: r)
    rw [← lnL_join he hpad (b :: r) ht]
    rw [show a ++ (pad ++ e) ++ joinL (pad ++ e) (b :: r) = (a ++ pad) ++ (e ++ joinL (pad ++ e) (b :: r)) by simp]
    rw [lnL_app (a ++ pad) [] (fun c hc => by
      rcases List.mem_append.mp hc with hc | hc
      · exact h a List.mem_cons_self c hc
      · exact hpad c hc), lnL_end he]
    · simp
    · rintro rfl
      exact join_head hpad (b :: r) ht
theorem jl_closed (pad : List Nat) : ∀ L : List (List Nat), joinLines pad (L ++ [[]]) = L.map (· ++ pad)
  | [] => by simp [joinLines]
  | [a] => by simp [joinLines]
  | a :: b :: r => by
    have := jl_closed pad (b :: r)
    simp only [List.cons_append] at this ⊢
    rw [joinLines, this]; rfl
theorem jl_open (pad : List Nat) {z : List Nat} (hz : z ≠ []) : ∀ L : List (List Nat), joinLines pad (L ++ [z]) = L.map (· ++ pad) ++ [z]
  | [] => by simp [joinLines, hz]
  | [a] => by simp [joinLines, hz]
  | a :: b :: r => by
    have := jl_open pad hz (b :: r)
    simp only [List.cons_append] at this ⊢
    rw [joinLines, this]; rfl
/-- a stripped line -/
def rsL (l : List Nat) : List Nat := (l.reverse.dropWhile Unicode.isSpace).reverse
def dL (e l : List Nat) : List Nat := if rsL l = [] then e else decL e (rsL l)
def dp (e p : List Nat) : List Nat := if p = [] then e else decL e p
def NoSp (p : List Nat) : Prop := ∀ q c, p = q ++ [c] → Unicode.isSpace c = false
theorem decPre_ln (e : List Nat) (x : Str) : decPre e (Txt.lines x) = ((lnL [] (ch x)).map (dL e)).flatten := by
  unfold decPre
  rw [← lines_ch, List.map_map]
  congr 1
  apply List.map_congr_left
  intro l _
  show decLine e l = dL e (ch l)
  unfold decLine dL
  rw [rstrip_ch]; rfl
theorem dropAll {p : List Nat} : ∀ {l : List Nat}, (∀ c ∈ l, Unicode.isSpace c = true) → (l ++ p).dropWhile Unicode.isSpace = p.dropWhile Unicode.isSpace
  | [], _ => rfl
  | c :: l, h => by
    rw [List.cons_append, List.dropWhile_cons, if_pos (h c List.mem_cons_self), dropAll (fun d hd => h d (List.mem_cons_of_mem _ hd))]
theorem rsL_pad {p pad : List Nat} (hpad : ∀ c ∈ pad, Unicode.isSpace c = true) (hp : NoSp p) : rsL (p ++ pad) = p := by
  unfold rsL
  rw [List.reverse_append, dropAll (fun c hc => hpad c (List.mem_reverse.mp hc))]
  by_cases h : p = []
  · subst h; rfl
  · obtain ⟨a, c, rfl⟩ := snoc_of h
    rw [List.reverse_append, List.reverse_singleton, List.singleton_append, List.dropWhile_cons, if_neg (by rw [hp a c rfl]; exact Bool.false_ne_true)]
    simp
theorem dL_pad {e p pad : List Nat} (hpad : ∀ c ∈ pad, Unicode.isSpace c = true) (hp : NoSp p) : dL e (p ++ pad) = dp e p := by
  unfold dL dp; rw [rsL_pad hpad hp]
theorem dL_self {e p : List Nat} (hp : NoSp p) : dL e p = dp e p := by
  have := dL_pad (e := e) (p := p) (pad := []) (fun c hc => nomatch hc) hp
  rwa [List.append_nil] at this
/-- the last sign -/
def lastC (c : Nat) : Nat := if plainC c = true then c else hexDig (c % 16)
theorem encC_last (c : Nat) : ∃ a, encC c = a ++ [lastC c] := by
  unfold encC lastC
  by_cases h : plainC c = true
  · rw [if_pos h, if_pos h]; exact ⟨[], rfl⟩
  · rw [if_neg h, if_neg h]; exact ⟨[61, hexDig (c / 16)], rfl⟩
theorem encX_last (t : List Nat) (c : Nat) : ∃ a, encX (t ++ [c]) = a ++ [lastC c] := by
  obtain ⟨a, h⟩ := encC_last c
  exact ⟨encX t ++ a, by rw [encX_app, encX_cons, encX_nil, List.append_nil, h, List.append_assoc]⟩
theorem getD_last (a : List Nat) (c : Nat) : (a ++ [c]).getD ((a ++ [c]).length - 1) 0 = c := by simp [List.getD]
theorem lastC_blank {c : Nat} (hc : c < 256) : (lastC c = 32 ∨ lastC c = 9) ↔ (c = 32 ∨ c = 9) := by
  have : ∀ c : Fin 256, (lastC c.val = 32 ∨ lastC c.val = 9) ↔ (c.val = 32 ∨ c.val = 9) := by decide +kernel
  exact this ⟨c, hc⟩
theorem lastC_end {c : Nat} (hc : c < 256) : (lastC c = 13 ∨ lastC c = 10) ↔ (c = 13 ∨ c = 10) := by
  have : ∀ c : Fin 256, (lastC c.val = 13 ∨ lastC c.val = 10) ↔ (c.val = 13 ∨ c.val = 10) := by decide +kernel
  exact this ⟨c, hc⟩
theorem lastC_sp {c : Nat} (hc : c < 256) : c ≠ 10 → c ≠ 13 → c ≠ 32 → c ≠ 9 → Unicode.isSpace (lastC c) = false := by
  have : ∀ c : Fin 256, c.val ≠ 10 → c.val ≠ 13 → c.val ≠ 32 → c.val ≠ 9 → Unicode.isSpace (lastC c.val) = false := by decide +kernel
  exact this ⟨c, hc⟩
theorem encC_lb {c : Nat} (hc : c < 256) (h10 : c ≠ 10) (h13 : c ≠ 13) : ∀ d ∈ encC c, isLB d = false := by
  have : ∀ c : Fin 256, c.val ≠ 10 → c.val ≠ 13 → ∀ d ∈ encC c.val, isLB d = false := by decide +kernel
  exact this ⟨c, hc⟩ h10 h13
/-- signs of a line of the row -/
def LineOk (t : List Nat) : Prop := ∀ c ∈ t, c < 256 ∧ c ≠ 10 ∧ c ≠ 13
theorem encX_lb : ∀ {t : List Nat}, LineOk t → ∀ d ∈ encX t, isLB d = false
  | [], _, d, hd => by cases hd
  | c :: t, h, d, hd => by
    rw [encX_cons] at hd
    rcases List.mem_append.mp hd with hd | hd
    · have := h c List.mem_cons_self
      exact encC_lb this.1 this.2.1 this.2.2 d hd
    · exact encX_lb (fun e he => h e (List.mem_cons_of_mem _ he)) d hd
theorem lb61 : isLB 61 = false := by decide +kernel
theorem nosp_snoc {a : List Nat} {c : Nat} (h : Unicode.isSpace c = false) : NoSp (a ++ [c]) := by
  intro q d e
  have := List.append_inj' e rfl
  rw [← List.singleton_inj.mp this.2]; exact h
theorem sp61 : Unicode.isSpace 61 = false := by decide +kernel
theorem dp_soft {e s : List Nat} (hs : ∀ c ∈ s, c < 256) : dp e (encX s ++ [61]) = s := by
  unfold dp
  rw [if_neg (by simp), decL_encX (by simp) s hs, decL_soft, List.append_nil]
theorem quoteL_ok {c : Nat} (hc : c < 256) : (∀ d ∈ quoteL c, isLB d = false) ∧ ∃ a d, quoteL c = a ++ [d] ∧ Unicode.isSpace d = false := by
  have h1 := hexDig_ne (c / 16) (by omega)
  have h2 := hexDig_ne (c % 16) (by omega)
  refine ⟨fun d hd => ?_, [61, hexDig (c / 16)], hexDig (c % 16), rfl, h2.2.2.2.2.1⟩
  simp only [quoteL, List.mem_cons, List.not_mem_nil, or_false] at hd
  rcases hd with rfl | rfl | rfl
  · exact lb61
  · exact h1.2.2.2.1
  · exact h2.2.2.2.1
def PieceOk (p : List Nat) : Prop := (∀ c ∈ p, isLB c = false) ∧ NoSp p
theorem ok_soft {s : List Nat} (hs : LineOk s) : PieceOk (encX s ++ [61]) := by
  refine ⟨fun c hc => ?_, nosp_snoc sp61⟩
  rcases List.mem_append.mp hc with hc | hc
  · exact encX_lb hs c hc
  · rw [List.mem_singleton.mp hc]; exact lb61
theorem flat_soft {e : List Nat} : ∀ {ts : List (List Nat)}, (∀ s ∈ ts, LineOk s) → ((ts.map (fun s => encX s ++ [61])).map (dp e)).flatten = ts.flatten
  | [], _ => rfl
  | s :: ts, h => by
    rw [List.map_cons, List.map_cons, List.flatten_cons, List.flatten_cons, flat_soft (fun x hx => h x (List.mem_cons_of_mem _ hx)), dp_soft (fun c hc => (h s List.mem_cons_self c hc).1)]
theorem line_dec {k : Nat} (hk : 3 ≤ k) (e t : List Nat) (ht : LineOk t) : (∀ p ∈ subLine k (encX t), PieceOk p) ∧ ((subLine k (encX t)).map (dp e)).flatten = t ++ e ∧ (∀ t' c, t = t' ++ [c] → c ≠ 32 → c ≠ 9 → ∃ A z, subLine k (encX t) = A ++ [z] ∧ z ≠ []) := by
  by_cases h0 : t = []
  · subst h0
    have e1 : subLine k (encX []) = [[]] := by
      unfold subLine
      rw [encX_nil, encW_0 (by simp), subLast, if_neg (fun q => q.1 rfl)]; rfl
    rw [e1]
    refine ⟨fun p hp => ?_, by simp [dp], fun t' c h => by simp at h⟩
    rw [List.mem_singleton.mp hp]
    exact ⟨(fun c hc => nomatch hc), fun q c h => by simp at h⟩
  · obtain ⟨ts, tl, h1, h2, h3, h4⟩ := encW_tok k hk _ t (Nat.le_refl _) (fun c hc => (ht c hc).1)
    have htl := h4 h0
    have hts : ∀ s ∈ ts, LineOk s := fun s hs c hc => ht c (by rw [h1]; exact List.mem_append.mpr (.inl (List.mem_flatten.mpr ⟨s, hs, hc⟩)))
    have htl' : LineOk tl := fun c hc => ht c (by rw [h1]; exact List.mem_append.mpr (.inr hc))
    obtain ⟨tm, c, rfl⟩ := snoc_of htl
    have hc := htl' c (List.mem_append.mpr (.inr (List.mem_singleton.mpr rfl)))
    have htm : LineOk tm := fun d hd => htl' d (List.mem_append.mpr (.inl hd))
    have hlast : (encX t).getD ((encX t).length - 1) 0 = lastC c := by
      obtain ⟨a, ha⟩ := encX_last (ts.flatten ++ tm) c
      rw [h1, ← List.append_assoc, ha, getD_last]
    have hbl : blankLast (encX t) ↔ (c = 32 ∨ c = 9) := by
      show (encX t ≠ [] ∧ _) ↔ _
      rw [hlast, lastC_blank hc.1]
      exact ⟨fun q => q.2, fun q => ⟨encX_ne h0, q⟩⟩
    unfold subLine
    rw [h2, h3]
    by_cases hb : c = 32 ∨ c = 9
    · have hpl : plainC c = true := by rcases hb with rfl | rfl <;> decide
      have hlc : lastC c = c := by unfold lastC; rw [if_pos hpl]
      have hr : encX (tm ++ [c]) = encX tm ++ [c] := by rw [encX_app, encX_cons, encX_nil, encC_plain hpl]; rfl
      have hrt : (encX (tm ++ [c])).take ((encX (tm ++ [c])).length - 1) = encX tm := by rw [hr]; simp
      have hq := quoteL_ok hc.1
      unfold subLast
      rw [if_pos (hbl.mpr hb), hlast, hlc, hrt]
      refine ⟨?_, ?_, ?_⟩
      · intro p hp
        rcases List.mem_append.mp hp with hp | hp
        · obtain ⟨s, hs, rfl⟩ := List.mem_map.mp hp
          exact ok_soft (hts s hs)
        · obtain ⟨q1, a, d, q2, q3⟩ := hq
          split at hp
          · rw [List.mem_singleton.mp hp]
            refine ⟨fun x hx => ?_, ?_⟩
            · rcases List.mem_append.mp hx with hx | hx
              · exact encX_lb htm x hx
              · exact q1 x hx
            · rw [q2, ← List.append_assoc]; exact nosp_snoc q3
          · split at hp
            · simp only [List.mem_cons, List.not_mem_nil, or_false] at hp
              rcases hp with rfl | rfl
              · have := ok_soft htl'
                rw [hr] at this
                simpa using this
              · exact ⟨(fun c hc => nomatch hc), fun q c h => by simp at h⟩
            · simp only [List.mem_cons, List.not_mem_nil, or_false] at hp
              rcases hp with rfl | rfl
              · exact ok_soft htm
              · exact ⟨q1, by rw [q2]; exact nosp_snoc q3⟩
      · rw [List.map_append, List.flatten_append, flat_soft hts, h1, List.append_assoc]
        congr 1
        have hd : ∀ d ∈ tm, d < 256 := fun d hd => (htm d hd).1
        have hne : quoteL c ≠ [] := by simp [quoteL]
        have hqd : decL e (quoteL c) = c :: e := by
          have := decL_quote (e := e) (r := []) hc.1
          simpa using this
        split
        · show dp e (encX tm ++ quoteL c) ++ [] = _
          unfold dp
          rw [if_neg (by simp [quoteL]), decL_encX hne tm hd, hqd]; simp
        · split
          · show dp e (encX tm ++ [c, 61]) ++ (dp e [] ++ []) = _
            have : encX tm ++ [c, 61] = encX (tm ++ [c]) ++ [61] := by rw [hr]; simp
            rw [this, dp_soft (fun d hd => (htl' d hd).1)]; simp [dp]
          · show dp e (encX tm ++ [61]) ++ (dp e (quoteL c) ++ []) = _
            rw [dp_soft hd]
            unfold dp
            rw [if_neg hne, hqd]; simp
      · intro t' c' ht' n1 n2
        have : c = c' := by
          rw [h1, ← List.append_assoc] at ht'
          exact List.singleton_inj.mp (List.append_inj' ht' rfl).2
        subst this
        exact absurd hb (by omega)
    · unfold subLast
      rw [if_neg (fun q => hb (hbl.mp q))]
      obtain ⟨a, ha⟩ := encX_last tm c
      refine ⟨?_, ?_, ?_⟩
      · intro p hp
        rcases List.mem_append.mp hp with hp | hp
        · obtain ⟨s, hs, rfl⟩ := List.mem_map.mp hp
          exact ok_soft (hts s hs)
        · rw [List.mem_singleton.mp hp]
          refine ⟨encX_lb htl', ?_⟩
          rw [ha]
          exact nosp_snoc (lastC_sp hc.1 hc.2.1 hc.2.2 (fun q => hb (.inl q)) (fun q => hb (.inr q)))
      · rw [List.map_append, List.flatten_append, flat_soft hts, h1, List.append_assoc]
        congr 1
        show dp e (encX (tm ++ [c])) ++ [] = _
        unfold dp
        rw [if_neg (encX_ne htl), List.append_nil, decL_encX0 _ htl (fun d hd => (htl' d hd).1)]
      · intro _ _ _ _ _
        exact ⟨_, _, rfl, encX_ne htl⟩
end Mine
-- text PE
namespace Mine
open PySem.StrLaws PySem.Builtin PySem.Builtin.Str
/-- the row's own lines -/
def lnT : List Nat → List Nat → List (List Nat)
  | cur, [] => if cur = [] then [] else [cur]
  | cur, c :: r => if c = 13 ∨ c = 10 then cur :: (if c = 13 ∧ r.head? = some 10 then lnT [] r.tail else lnT [] r) else lnT (cur ++ [c]) r
termination_by _ l => l.length
decreasing_by all_goals (simp [List.length_tail]; try omega)
theorem lnT_nil (cur : List Nat) : lnT cur [] = if cur = [] then [] else [cur] := by rw [lnT]
theorem lnT_cons (cur : List Nat) (c : Nat) (r : List Nat) : lnT cur (c :: r) = if c = 13 ∨ c = 10 then cur :: (if c = 13 ∧ r.head? = some 10 then lnT [] r.tail else lnT [] r) else lnT (cur ++ [c]) r := by rw [lnT]
theorem tail_lt (r : List Nat) : r.tail.length ≤ r.length := by simp
theorem enc_head {r : List Nat} (h : ∀ c ∈ r, c < 256) : ((encX r).head? = some 10 ↔ r.head? = some 10) ∧ (r.head? = some 10 → (encX r).tail = encX r.tail) := by
  cases r with
  | nil => simp [encX]
  | cons d r =>
    rw [encX_cons]
    by_cases hp : plainC d = true
    · rw [encC_plain hp]; simp
    · rw [encC_quote (by simpa using hp)]
      have hd : d ≠ 10 := by rintro rfl; exact hp (by decide)
      constructor
      · simp [quoteL, hd]
      · intro q; simp at q; exact absurd q hd
theorem lnL_enc : ∀ (n : Nat) (t cur : List Nat), t.length ≤ n → (∀ c ∈ t, c < 256) → lnL (encX cur) (encX t) = (lnT cur t).map encX := by
  intro n
  induction n with
  | zero =>
    intro t cur h _
    have : t = [] := List.length_eq_zero_iff.mp (by omega)
    subst this
    rw [encX_nil, lnL_nil, lnT_nil]
    by_cases hc : cur = []
    · subst hc; rfl
    · rw [if_neg hc, if_neg (encX_ne hc)]; rfl
  | succ n ih =>
    intro t cur h ht
    cases t with
    | nil =>
      rw [encX_nil, lnL_nil, lnT_nil]
      by_cases hc : cur = []
      · subst hc; rfl
      · rw [if_neg hc, if_neg (encX_ne hc)]; rfl
    | cons c r =>
      have hr : ∀ d ∈ r, d < 256 := fun d hd => ht d (List.mem_cons_of_mem _ hd)
      have hl : r.length ≤ n := by simpa using h
      rw [encX_cons, lnT_cons]
      by_cases he : c = 13 ∨ c = 10
      · have hp : plainC c = true := by rcases he with rfl | rfl <;> decide
        have hlb : isLB c = true := by rcases he with rfl | rfl; exact lb13; exact lb10
        rw [encC_plain hp, List.singleton_append, lnL_cons, if_pos hlb, if_pos he, List.map_cons]
        congr 1
        have hh := enc_head hr
        by_cases hq : c = 13 ∧ r.head? = some 10
        · rw [if_pos ⟨hq.1, hh.1.mpr hq.2⟩, if_pos hq, hh.2 hq.2]
          exact ih r.tail [] (Nat.le_trans (tail_lt r) hl) (fun d hd => hr d (List.mem_of_mem_tail hd))
        · rw [if_neg (fun q => hq ⟨q.1, hh.1.mp q.2⟩), if_neg hq]
          exact ih r [] hl hr
      · rw [if_neg he, lnL_app _ _ (encC_lb (ht c List.mem_cons_self) (fun q => he (.inr q)) (fun q => he (.inl q)))]
        rw [← ih r (cur ++ [c]) hl hr, encX_app, encX_cons, encX_nil, List.append_nil]
theorem lnT_ok : ∀ (n : Nat) (t cur : List Nat), t.length ≤ n → (∀ c ∈ t, c < 256) → LineOk cur → ∀ l ∈ lnT cur t, LineOk l := by
  intro n
  induction n with
  | zero =>
    intro t cur h _ hcur l hl
    have : t = [] := List.length_eq_zero_iff.mp (by omega)
    subst this
    rw [lnT_nil] at hl
    split at hl
    · cases hl
    · rw [List.mem_singleton.mp hl]; exact hcur
  | succ n ih =>
    intro t cur h ht hcur l hl
    cases t with
    | nil =>
      rw [lnT_nil] at hl
      split at hl
      · cases hl
      · rw [List.mem_singleton.mp hl]; exact hcur
    | cons c r =>
      have hr : ∀ d ∈ r, d < 256 := fun d hd => ht d (List.mem_cons_of_mem _ hd)
      have hn : r.length ≤ n := by simpa using h
      have h0 : LineOk [] := fun d hd => nomatch hd
      rw [lnT_cons] at hl
      by_cases he : c = 13 ∨ c = 10
      · rw [if_pos he] at hl
        rcases List.mem_cons.mp hl with rfl | hl
        · exact hcur
        · split at hl
          · exact ih r.tail [] (Nat.le_trans (tail_lt r) hn) (fun d hd => hr d (List.mem_of_mem_tail hd)) h0 l hl
          · exact ih r [] hn hr h0 l hl
      · rw [if_neg he] at hl
        refine ih r (cur ++ [c]) hn hr (fun d hd => ?_) l hl
        rcases List.mem_append.mp hd with hd | hd
        · exact hcur d hd
        · rw [List.mem_singleton.mp hd]; exact ⟨ht c List.mem_cons_self, fun q => he (.inr q), fun q => he (.inl q)⟩
/-- is the last line still open? -/
def opn (cur t : List Nat) : Prop := match t.getLast? with
  | none => cur ≠ []
  | some c => c ≠ 13 ∧ c ≠ 10
theorem opn_nil (cur : List Nat) : opn cur [] ↔ cur ≠ [] := Iff.rfl
theorem opn_cons (cur : List Nat) (c : Nat) {r : List Nat} (hr : r ≠ []) (cur' : List Nat) : opn cur (c :: r) ↔ opn cur' r := by
  unfold opn
  rw [List.getLast?_cons]
  cases h : r.getLast? with
  | none => exact absurd (List.getLast?_eq_none_iff.mp h) hr
  | some d => simp
theorem opn_one (cur : List Nat) (c : Nat) : opn cur [c] ↔ (c ≠ 13 ∧ c ≠ 10) := Iff.rfl
theorem opn_snoc (cur t : List Nat) (c : Nat) : opn cur (t ++ [c]) ↔ (c ≠ 13 ∧ c ≠ 10) := by
  unfold opn; rw [List.getLast?_concat]
theorem subS_cr {mark r : List Nat} (h : r.head? ≠ some 10) : subS mark true r = subS mark false r := by
  cases r with
  | nil => rfl
  | cons c r =>
    have : c ≠ 10 := by rintro rfl; exact h rfl
    rw [subS, subS, if_neg this, if_neg this]
open Classical in
theorem lnT_sub (mark : List Nat) : ∀ (n : Nat) (t cur : List Nat), t.length ≤ n → ((lnT cur t).map (· ++ mark)).flatten = cur ++ subS mark false t ++ (if opn cur t then mark else []) := by
  have base : ∀ cur, ((lnT cur []).map (· ++ mark)).flatten = cur ++ subS mark false [] ++ (if opn cur [] then mark else []) := by
    intro cur
    rw [lnT_nil]
    by_cases hc : cur = []
    · subst hc; rw [if_pos rfl, if_neg (fun q => (opn_nil _).mp q rfl)]; simp [subS]
    · rw [if_neg hc, if_pos ((opn_nil _).mpr hc)]; simp [subS]
  intro n
  induction n with
  | zero =>
    intro t cur h
    have : t = [] := List.length_eq_zero_iff.mp (by omega)
    subst this
    exact base cur
  | succ n ih =>
    intro t cur h
    cases t with
    | nil => exact base cur
    | cons c r =>
      have hl : r.length ≤ n := by simpa using h
      rw [lnT_cons]
      by_cases he : c = 13 ∨ c = 10
      · rw [if_pos he, List.map_cons, List.flatten_cons]
        by_cases hq : c = 13 ∧ r.head? = some 10
        · rw [if_pos hq, ih r.tail [] (Nat.le_trans (tail_lt r) hl)]
          obtain ⟨rfl, hh⟩ := hq
          cases r with
          | nil => cases hh
          | cons d r =>
            have hd : d = 10 := by simpa using hh
            subst hd
            have hs : subS mark false (13 :: 10 :: r) = mark ++ subS mark false r := by simp [subS]
            have ho : opn cur (13 :: 10 :: r) ↔ opn [] r := by
              rw [opn_cons cur 13 (r := 10 :: r) (by simp) []]
              by_cases hr : r = []
              · subst hr; rw [opn_one, opn_nil]; simp
              · exact opn_cons [] 10 hr []
            rw [hs, List.tail_cons]
            by_cases hoo : opn [] r
            · rw [if_pos hoo, if_pos (ho.mpr hoo)]; simp
            · rw [if_neg hoo, if_neg (fun q => hoo (ho.mp q))]; simp
        · rw [if_neg hq, ih r [] hl]
          have hs : subS mark false (c :: r) = mark ++ subS mark false r := by
            rw [subS]
            by_cases h13 : c = 13
            · rw [if_pos h13, subS_cr (fun q => hq ⟨h13, q⟩)]
            · rw [if_neg h13, if_pos (he.resolve_left h13)]; simp
          have ho : opn cur (c :: r) ↔ opn [] r := by
            by_cases hr : r = []
            · subst hr
              rw [opn_one, opn_nil]
              exact ⟨fun q => absurd he (by omega), fun q => absurd rfl q⟩
            · exact opn_cons cur c hr []
          rw [hs]
          simp only [ho]
          simp
      · rw [if_neg he, ih r (cur ++ [c]) hl]
        have hs : subS mark false (c :: r) = c :: subS mark false r := by
          rw [subS, if_neg (fun q => he (.inl q)), if_neg (fun q => he (.inr q))]
        have ho : opn cur (c :: r) ↔ opn (cur ++ [c]) r := by
          by_cases hr : r = []
          · subst hr
            rw [opn_one, opn_nil]
            exact ⟨fun _ => by simp, fun _ => ⟨fun q => he (.inl q), fun q => he (.inr q)⟩⟩
          · exact opn_cons cur c hr _
        rw [hs]
        simp only [ho]
        simp
theorem lnT_last : ∀ (n : Nat) (t cur : List Nat) (c : Nat), t.length ≤ n → c ≠ 13 → c ≠ 10 → ∃ Ls l, lnT cur (t ++ [c]) = Ls ++ [l ++ [c]] := by
  intro n
  induction n with
  | zero =>
    intro t cur c h h1 h2
    have : t = [] := List.length_eq_zero_iff.mp (by omega)
    subst this
    refine ⟨[], cur, ?_⟩
    rw [List.nil_append, lnT_cons, if_neg (by omega), lnT_nil, if_neg (by simp)]; rfl
  | succ n ih =>
    intro t cur c h h1 h2
    cases t with
    | nil =>
      refine ⟨[], cur, ?_⟩
      rw [List.nil_append, lnT_cons, if_neg (by omega), lnT_nil, if_neg (by simp)]; rfl
    | cons d r =>
      have hl : r.length ≤ n := by simpa using h
      rw [List.cons_append, lnT_cons]
      by_cases he : d = 13 ∨ d = 10
      · rw [if_pos he]
        by_cases hq : d = 13 ∧ (r ++ [c]).head? = some 10
        · rw [if_pos hq]
          cases r with
          | nil => have := hq.2; simp at this; exact absurd this h2
          | cons f r =>
            obtain ⟨Ls, l, e⟩ := ih r [] c (by simp at hl; omega) h1 h2
            exact ⟨cur :: Ls, l, by rw [List.cons_append, List.tail_cons, e]; rfl⟩
        · rw [if_neg hq]
          obtain ⟨Ls, l, e⟩ := ih r [] c hl h1 h2
          exact ⟨cur :: Ls, l, by rw [e]; rfl⟩
      · rw [if_neg he]
        exact ih r _ c hl h1 h2
theorem lines_dec {k : Nat} (hk : 3 ≤ k) (e : List Nat) : ∀ (ls : List (List Nat)), (∀ l ∈ ls, LineOk l) → (∀ p ∈ ((ls.map encX).map (subLine k)).flatten, PieceOk p) ∧ ((((ls.map encX).map (subLine k)).flatten).map (dp e)).flatten = (ls.map (· ++ e)).flatten
  | [], _ => ⟨fun p hp => by simp at hp, rfl⟩
  | l :: ls, h => by
    obtain ⟨h1, h2⟩ := lines_dec hk e ls (fun x hx => h x (List.mem_cons_of_mem _ hx))
    obtain ⟨g1, g2, _⟩ := line_dec hk e l (h l List.mem_cons_self)
    simp only [List.map_cons, List.flatten_cons, List.map_append, List.flatten_append]
    refine ⟨fun p hp => ?_, ?_⟩
    · rcases List.mem_append.mp hp with hp | hp
      · exact g1 p hp
      · exact h1 p hp
    · rw [g2, h2]
theorem joinL_snoc (e : List Nat) (L : List (List Nat)) (z : List Nat) (hL : L ≠ []) : joinL e (L ++ [z]) = joinL e L ++ e ++ z := by
  rw [joinL_app e L [z] hL (by simp)]; rfl
theorem map_dL {e pad : List Nat} (hpad : ∀ c ∈ pad, Unicode.isSpace c = true) : ∀ L : List (List Nat), (∀ p ∈ L, PieceOk p) → (L.map (· ++ pad)).map (dL e) = L.map (dp e)
  | [], _ => rfl
  | p :: L, h => by
    rw [List.map_cons, List.map_cons, List.map_cons, map_dL hpad L (fun x hx => h x (List.mem_cons_of_mem _ hx)), dL_pad hpad (h p List.mem_cons_self).2]
theorem pad_lb {pad : List Nat} (h : ∀ c ∈ pad, c = 32 ∨ c = 9) : ∀ c ∈ pad, isLB c = false := fun c hc => by
  rcases h c hc with rfl | rfl <;> decide +kernel
theorem pad_sp {pad : List Nat} (h : ∀ c ∈ pad, c = 32 ∨ c = 9) : ∀ c ∈ pad, Unicode.isSpace c = true := fun c hc => by
  rcases h c hc with rfl | rfl <;> decide +kernel
theorem lnT_ne : ∀ (t cur : List Nat), (cur ≠ [] ∨ t ≠ []) → lnT cur t ≠ []
  | [], cur, h => by
    rw [lnT_nil, if_neg (h.resolve_right (fun q => q rfl))]; simp
  | c :: r, cur, _ => by
    rw [lnT_cons]
    by_cases he : c = 13 ∨ c = 10
    · rw [if_pos he]; simp
    · rw [if_neg he]; exact lnT_ne r (cur ++ [c]) (.inl (by simp))
theorem subLine_ne (k : Nat) (l : List Nat) : subLine k l ≠ [] := by
  unfold subLine
  intro q
  exact subLast_ne _ _ _ (List.append_eq_nil_iff.mp q).2
theorem flat_ne {k : Nat} {ls : List (List Nat)} (h : ls ≠ []) : ((ls.map encX).map (subLine k)).flatten ≠ [] := by
  cases ls with
  | nil => exact absurd rfl h
  | cons l r =>
    rw [List.map_cons, List.map_cons, List.flatten_cons]
    intro q
    exact subLine_ne _ _ (List.append_eq_nil_iff.mp q).1
theorem end_last {e : List Nat} (he : EndOk e) (a : List Nat) : (a ++ e).getD ((a ++ e).length - 1) 0 = 13 ∨ (a ++ e).getD ((a ++ e).length - 1) 0 = 10 := by
  rcases he with rfl | rfl | rfl
  · right; exact getD_last a 10
  · right
    have := getD_last (a ++ [13]) 10
    rw [List.append_assoc] at this; exact this
  · left; exact getD_last a 13
open Classical in
theorem dec_letter {k : Nat} {e pad mark T' : List Nat} {c : Nat} (hk : 3 ≤ k) (he : EndOk e) (hpad : ∀ c ∈ pad, c = 32 ∨ c = 9) (hT : ∀ d ∈ T' ++ [c], d < 256)
    (hc : (c = 13 ∨ c = 10) ∨ (mark ≠ [] ∧ c ≠ 13 ∧ c ≠ 10 ∧ c ≠ 32 ∧ c ≠ 9)) {x : Str} (hx : ch x = joinL (pad ++ e) (subs k (encX (T' ++ [c])))) :
    decF x mark = subS mark false (T' ++ [c]) ∧ (decPre mark (Txt.lines x)).length ≤ (subS mark false (T' ++ [c])).length + mark.length := by
  have hlines : lnL [] (encX (T' ++ [c])) = (lnT [] (T' ++ [c])).map encX := by
    have := lnL_enc _ (T' ++ [c]) [] (Nat.le_refl _) hT
    rwa [encX_nil] at this
  have hok : ∀ l ∈ lnT [] (T' ++ [c]), LineOk l := lnT_ok _ _ [] (Nat.le_refl _) hT (fun d hd => nomatch hd)
  obtain ⟨hP, hD⟩ := lines_dec hk mark _ hok
  have hS := lnT_sub mark _ (T' ++ [c]) [] (Nat.le_refl _)
  rw [List.nil_append] at hS
  have hcl : closed (encX (T' ++ [c])) ↔ (c = 13 ∨ c = 10) := by
    obtain ⟨a, ha⟩ := encX_last T' c
    show (_ ∨ _) ↔ _
    rw [ha, getD_last]
    exact lastC_end (hT c (by simp))
  have hlen := ch_len x
  rcases hc with hc | ⟨hm, c1, c2, c3, c4⟩
  · have hsub : subs k (encX (T' ++ [c])) = (((lnT [] (T' ++ [c])).map encX).map (subLine k)).flatten ++ [[]] := by
      unfold subs
      rw [if_pos (hcl.mpr hc), hlines]
    rw [hsub] at hx
    have hL : (((lnT [] (T' ++ [c])).map encX).map (subLine k)).flatten ≠ [] := flat_ne (lnT_ne _ _ (.inr (by simp)))
    generalize (((lnT [] (T' ++ [c])).map encX).map (subLine k)).flatten = L at hx hP hD hL
    have hP' : ∀ p ∈ L ++ [[]], ∀ d ∈ p, isLB d = false := fun p hp d hd => by
      rcases List.mem_append.mp hp with hp | hp
      · exact (hP p hp).1 d hd
      · rw [List.mem_singleton.mp hp] at hd; cases hd
    have hpre : decPre mark (Txt.lines x) = subS mark false (T' ++ [c]) := by
      rw [decPre_ln, hx, lnL_join he (pad_lb hpad) _ hP', jl_closed, map_dL (pad_sp hpad) L hP, hD, hS, if_neg, List.append_nil]
      rw [opn_snoc]; omega
    rw [joinL_snoc _ _ _ hL, List.append_nil] at hx
    refine ⟨?_, by rw [hpre]; omega⟩
    unfold decF
    have hl2 := end_last he (joinL (pad ++ e) L ++ pad)
    rw [List.append_assoc, ← hx, hlen] at hl2
    have h0 : x.length ≠ 0 := by
      intro q
      rw [q] at hlen
      rw [List.length_eq_zero_iff.mp hlen] at hx
      have := congrArg List.length hx
      simp only [List.length_append, List.length_nil] at this
      rcases he with rfl | rfl | rfl <;> simp at this
    rw [if_neg h0, if_neg (fun q => by rcases hl2 with z | z; exact q.1.1 z; exact q.1.2 z), hpre]
  · have hsub : subs k (encX (T' ++ [c])) = (((lnT [] (T' ++ [c])).map encX).map (subLine k)).flatten := by
      unfold subs
      rw [if_neg (fun q => by have := hcl.mp q; omega), hlines, List.append_nil]
    rw [hsub] at hx
    obtain ⟨Ls, l, hll⟩ := lnT_last _ T' [] c (Nat.le_refl _) c1 c2
    obtain ⟨_, _, hz⟩ := line_dec hk mark (l ++ [c]) (hok _ (by rw [hll]; simp))
    obtain ⟨A, z, hA, hz0⟩ := hz l c rfl c3 c4
    have hLz : (((lnT [] (T' ++ [c])).map encX).map (subLine k)).flatten = (((Ls.map encX).map (subLine k)).flatten ++ A) ++ [z] := by
      rw [hll]; simp [hA]
    rw [hLz] at hx hP hD
    generalize ((Ls.map encX).map (subLine k)).flatten ++ A = L at hx hP hD
    have hP' : ∀ p ∈ L ++ [z], ∀ d ∈ p, isLB d = false := fun p hp d hd => (hP p hp).1 d hd
    have hpre : decPre mark (Txt.lines x) = subS mark false (T' ++ [c]) ++ mark := by
      have hzP := hP z (by simp)
      rw [decPre_ln, hx, lnL_join he (pad_lb hpad) _ hP', jl_open _ hz0, List.map_append, map_dL (pad_sp hpad) L (fun p hp => hP p (List.mem_append.mpr (.inl hp)))]
      rw [List.map_cons, List.map_nil, dL_self hzP.2, ← List.map_singleton, ← List.map_append, hD, hS, if_pos]
      rw [opn_snoc]; exact ⟨c1, c2⟩
    have hend : ∃ a, ch x = a ++ z := by
      by_cases hL : L = []
      · subst hL; exact ⟨[], by rw [hx]; rfl⟩
      · exact ⟨_, by rw [hx, joinL_snoc _ _ _ hL]⟩
    obtain ⟨a, ha⟩ := hend
    obtain ⟨z', d, rfl⟩ := snoc_of hz0
    have hd := hP' (z' ++ [d]) (by simp) d (by simp)
    have hlast : (ch x).getD (x.length - 1) 0 = d := by
      rw [← hlen, ha, ← List.append_assoc, getD_last]
    have hd13 : d ≠ 13 := by rintro rfl; rw [lb13] at hd; cases hd
    have hd10 : d ≠ 10 := by rintro rfl; rw [lb10] at hd; cases hd
    refine ⟨?_, by rw [hpre, List.length_append]; omega⟩
    have h0 : x.length ≠ 0 := by
      intro q
      rw [ha] at hlen
      simp at hlen; omega
    unfold decF
    rw [if_neg h0, if_pos, if_neg hm, hpre]
    · simp
    · rw [hlast, hpre]
      exact ⟨⟨hd13, hd10⟩, List.isSuffixOf_iff_suffix.mpr (List.suffix_append _ _)⟩
end Mine
-- text PF
namespace Mine
open PySem.StrLaws PySem.Builtin PySem.Builtin.Str
theorem at_ch {x y : PySem.Str} {i : Nat} (h0 : ch y ≠ []) : At x y x.length i ↔ ((ch x).drop i).take (ch y).length = ch y := by
  have hx := ch_len x
  have hy := ch_len y
  constructor
  · rintro ⟨_, h2⟩
    rw [subAt_eq, beq_iff_eq] at h2
    rw [hy]; exact h2
  · intro h
    refine ⟨?_, ?_⟩
    · have := congrArg List.length h
      simp only [List.length_take, List.length_drop] at this
      have : (ch y).length ≠ 0 := fun q => h0 (List.length_eq_zero_iff.mp q)
      omega
    · rw [subAt_eq, beq_iff_eq]; rw [hy] at h; exact h
theorem no_at {x y : PySem.Str} {y0 : Nat} {ys p rest : List Nat} {a k : Nat} (hy : ch y = y0 :: ys) (hp : y0 ∉ p) (hd : (ch x).drop a = p ++ rest) (hk : a ≤ k) (hk2 : k < a + p.length) : ¬ At x y x.length k := by
  rw [at_ch (by rw [hy]; simp)]
  intro h
  have e : (ch x).drop k = p.drop (k - a) ++ rest := by
    rw [show k = a + (k - a) by omega, ← List.drop_drop, hd, List.drop_append_of_le_length (by omega)]
    congr 2; omega
  rw [e, hy] at h
  have hlt : k - a < p.length := by omega
  rw [List.drop_eq_getElem_cons hlt, List.cons_append, List.length_cons, List.take_succ_cons] at h
  injection h with h1 h2
  exact hp (h1 ▸ List.getElem_mem hlt)
theorem no_at_end {x y : PySem.Str} {k : Nat} (hy : ch y ≠ []) (hk : (ch x).length ≤ k) : ¬ At x y x.length k := by
  rw [at_ch hy]
  intro h
  rw [List.drop_eq_nil_of_le hk, List.take_nil] at h
  exact hy h.symm
theorem parts_join {x y : PySem.Str} {y0 : Nat} {ys : List Nat} (hy : ch y = y0 :: ys) : ∀ (ps : List (List Nat)) (cuts : List Nat) (a f : Nat), ps ≠ [] → (∀ p ∈ ps, y0 ∉ p) → (ch x).drop a = joinL (ch y) ps → a ≤ (ch x).length →
    ChainG x y x.length a cuts f → (∀ k, f ≤ k → ¬ At x y x.length k) → (partsFrom x y.length a cuts).map ch = ps
  | [], _, _, _, h, _, _, _, _, _ => absurd rfl h
  | [p], cuts, a, f, _, hp, hd, ha, hG, hn => by
    have hlen := ch_len x
    have hd' : (ch x).drop a = p ++ [] := by rw [hd]; simp [joinL]
    have hpl : a + p.length = (ch x).length := by
      have := congrArg List.length hd'
      simp only [List.length_drop, List.append_nil] at this
      omega
    cases cuts with
    | nil =>
      have : ch (strSub x a x.length) = p := by
        rw [sub_ch, hd', List.append_nil, List.take_of_length_le (by omega)]
      simp [partsFrom, this]
    | cons c r =>
      obtain ⟨h1, h2, _, _⟩ := hG
      exfalso
      by_cases hc : c < a + p.length
      · exact no_at hy (hp p List.mem_cons_self) hd' h1 hc h2
      · exact no_at_end (by rw [hy]; simp) (by omega) h2
  | p :: q :: r, cuts, a, f, _, hp, hd, ha, hG, hn => by
    have hlen := ch_len x
    have hyl := ch_len y
    have hd' : (ch x).drop a = p ++ (ch y ++ joinL (ch y) (q :: r)) := by rw [hd]; simp [joinL]
    have hat : At x y x.length (a + p.length) := by
      rw [at_ch (by rw [hy]; simp), ← List.drop_drop, hd', List.drop_left, List.take_left]
    have hno : ∀ k, a ≤ k → k < a + p.length → ¬ At x y x.length k := fun k h1 h2 => no_at hy (hp p List.mem_cons_self) hd' h1 h2
    cases cuts with
    | nil =>
      have hf : f = a := hG
      exact absurd hat (hn _ (by omega))
    | cons c cs =>
      obtain ⟨h1, h2, h3, h4⟩ := hG
      have hc : c = a + p.length := by
        by_cases hlt : c < a + p.length
        · exact absurd h2 (hno c h1 hlt)
        · by_cases hgt : a + p.length < c
          · exact absurd hat (h3 _ (by omega) hgt)
          · omega
      subst hc
      have hd2 : (ch x).drop (a + p.length + y.length) = joinL (ch y) (q :: r) := by
        rw [← List.drop_drop, ← List.drop_drop, hd', List.drop_left, ← hyl, List.drop_left]
      have hle : a + p.length + y.length ≤ (ch x).length := by have := h2.1; omega
      rw [partsFrom, List.map_cons, parts_join hy (q :: r) cs _ f (by simp) (fun z hz => hp z (List.mem_cons_of_mem _ hz)) hd2 hle h4 hn]
      congr 1
      rw [sub_ch, hd', show a + p.length - a = p.length by omega, List.take_left]
theorem joinL_flatMap (e : List Nat) : ∀ (a : List Nat) (r : List (List Nat)), joinL e (a :: r) = a ++ r.flatMap (fun p => e ++ p)
  | a, [] => by simp [joinL]
  | a, b :: r => by
    show a ++ e ++ joinL e (b :: r) = _
    rw [joinL_flatMap e b r]; simp
theorem glued_fold (g : Array Nat) : ∀ (parts : List PySem.Str) (acc : Array Nat), (parts.foldl (fun acc p => acc ++ g ++ p.cps) acc).toList = acc.toList ++ (parts.map ch).flatMap (fun p => g.toList ++ p)
  | [], acc => by simp
  | p :: r, acc => by
    rw [List.foldl_cons, glued_fold g r]; simp [ch]
theorem glued_ch (z : PySem.Str) {parts : List PySem.Str} (h : parts ≠ []) : ch (glued z parts) = joinL (ch z) (parts.map ch) := by
  cases parts with
  | nil => exact absurd rfl h
  | cons p r =>
    rw [List.map_cons, joinL_flatMap]
    exact glued_fold z.cps r p.cps
theorem replace_join {x y z : PySem.Str} {y0 : Nat} {ys : List Nat} {ps : List (List Nat)} (hy : ch y = y0 :: ys) (hps : ps ≠ []) (hp : ∀ p ∈ ps, y0 ∉ p) (hx : ch x = joinL (ch y) ps) : ch (Txt.replace x y z) = joinL (ch z) ps := by
  have hyl : 1 ≤ y.length := by rw [← ch_len, hy]; simp
  obtain ⟨f, hG, hn⟩ := occ_tight x y hyl
  have key := parts_join hy ps _ 0 f hps hp (by rw [List.drop_zero]; exact hx) (Nat.zero_le _) hG hn
  unfold Txt.replace
  split
  · rename_i hc
    rw [Bool.or_eq_true] at hc
    rcases hc with hc | hc
    · rw [List.isEmpty_iff.mp hc] at key
      have e : ps = [ch x] := by rw [← key]; simp [partsFrom, sub_whole]
      rw [e]; rfl
    · simp at hc; omega
  · rw [partsBetween_eq, glued_ch z (by obtain ⟨p, r, e⟩ := partsFrom_ne x y.length 0 (occurrences x y 0 x.length (x.length + 1)); rw [e]; simp), key]
/-- sizes -/
theorem join_len (e : List Nat) (m : Nat) : ∀ ps : List (List Nat), (∀ p ∈ ps, p.length ≤ m) → (joinL e ps).length ≤ ps.length * (m + e.length)
  | [], _ => by simp [joinL]
  | [a], h => by
    have := h a List.mem_cons_self
    show a.length ≤ 1 * (m + e.length)
    omega
  | a :: b :: r, h => by
    have h1 := h a List.mem_cons_self
    have h2 := join_len e m (b :: r) (fun p hp => h p (List.mem_cons_of_mem _ hp))
    show (a ++ e ++ joinL e (b :: r)).length ≤ ((b :: r).length + 1) * (m + e.length)
    rw [Nat.add_mul, Nat.one_mul]
    simp only [List.length_append]
    omega
theorem lnL_len : ∀ (n : Nat) (x cur : List Nat), x.length ≤ n → ((lnL cur x).map List.length).sum + (lnL cur x).length ≤ cur.length + x.length + 1 := by
  have base : ∀ cur, ((lnL cur []).map List.length).sum + (lnL cur []).length ≤ cur.length + 0 + 1 := by
    intro cur; rw [lnL_nil]; split <;> simp
  intro n
  induction n with
  | zero => intro x cur h; have : x = [] := List.length_eq_zero_iff.mp (by omega); subst this; exact base cur
  | succ n ih =>
    intro x cur h
    cases x with
    | nil => exact base cur
    | cons c r =>
      have hl : r.length ≤ n := by simpa using h
      rw [lnL_cons]
      split
      · rw [List.map_cons, List.sum_cons, List.length_cons, List.length_cons]
        split
        · have := ih r.tail [] (Nat.le_trans (tail_lt r) hl)
          have := tail_lt r
          simp only [List.length_nil] at *; omega
        · have := ih r [] hl
          simp only [List.length_nil] at *; omega
      · have := ih r (cur ++ [c]) hl
        simp only [List.length_append, List.length_cons, List.length_nil] at *; omega
theorem mem_len {l : List Nat} : ∀ {ls : List (List Nat)}, l ∈ ls → l.length ≤ (ls.map List.length).sum
  | a :: r, h => by
    rcases List.mem_cons.mp h with rfl | h
    · simp
    · have := mem_len h
      simp only [List.map_cons, List.sum_cons]; omega
theorem encW_sizes (K : Nat) : ∀ (n : Nat) (r : List Nat), r.length ≤ n → (∀ p ∈ (encW K r).1, p.length ≤ r.length + 1) ∧ (encW K r).2.length ≤ r.length := by
  intro n
  induction n with
  | zero => intro r h; rw [encW_0 (by omega)]; exact ⟨(fun p hp => nomatch hp), Nat.le_refl _⟩
  | succ n ih =>
    intro r h
    have step : ∀ (j : Nat) (q : List Nat), 1 ≤ j → q.length ≤ r.length + 1 → r.length ≠ 0 → (∀ p ∈ (q :: (encW K (r.drop j)).1, (encW K (r.drop j)).2).1, p.length ≤ r.length + 1) ∧ (q :: (encW K (r.drop j)).1, (encW K (r.drop j)).2).2.length ≤ r.length := by
      intro j q hj hq hr
      have := ih (r.drop j) (by rw [List.length_drop]; omega)
      rw [List.length_drop] at this
      refine ⟨fun p hp => ?_, by dsimp only; omega⟩
      rcases List.mem_cons.mp hp with rfl | hp
      · exact hq
      · have := this.1 p hp; omega
    by_cases hc : K + 2 ≤ r.length ∧ 3 ≤ K
    · by_cases a1 : r.getD (K - 2) 0 = 61
      · rw [encW_1 hc.1 hc.2 a1]; exact step _ _ (by omega) (by rw [List.length_take]; omega) (by omega)
      · by_cases a2 : r.getD (K - 1) 0 = 61
        · rw [encW_2 hc.1 hc.2 a1 a2]; exact step _ _ (by omega) (by rw [List.length_take]; omega) (by omega)
        · rw [encW_3 hc.1 hc.2 a1 a2]; exact step _ _ (by omega) (by rw [List.length_append, List.length_take]; simp; omega) (by omega)
    · rw [encW, dif_neg hc]; exact ⟨(fun p hp => nomatch hp), Nat.le_refl _⟩
theorem subLine_sizes (K : Nat) (l : List Nat) : (subLine K l).length ≤ l.length + 2 ∧ ∀ p ∈ subLine K l, p.length ≤ l.length + 3 := by
  have h1 := encW_len K l
  have h2 := encW_sizes K _ l (Nat.le_refl _)
  unfold subLine
  constructor
  · rw [List.length_append]
    have : (subLast K l (encW K l).2).length ≤ 2 := by
      unfold subLast
      split
      · split
        · simp
        · split <;> simp
      · simp
    omega
  · intro p hp
    rcases List.mem_append.mp hp with hp | hp
    · have := h2.1 p hp; omega
    · have h3 := h2.2
      unfold subLast at hp
      split at hp
      · split at hp
        · rw [List.mem_singleton.mp hp]
          simp only [List.length_append, List.length_take, quoteL, List.length_cons, List.length_nil]; omega
        · split at hp
          · simp only [List.mem_cons, List.not_mem_nil, or_false] at hp
            rcases hp with rfl | rfl
            · simp only [List.length_append, List.length_take, List.length_cons, List.length_nil]; omega
            · simp
          · simp only [List.mem_cons, List.not_mem_nil, or_false] at hp
            rcases hp with rfl | rfl
            · simp only [List.length_append, List.length_take, List.length_cons, List.length_nil]; omega
            · simp [quoteL]
      · rw [List.mem_singleton.mp hp]; omega
theorem flat_sizes (K : Nat) : ∀ ls : List (List Nat), ((ls.map (subLine K)).flatten).length ≤ (ls.map List.length).sum + 2 * ls.length
  | [] => by simp
  | l :: r => by
    have h1 := flat_sizes K r
    have h2 := (subLine_sizes K l).1
    simp only [List.map_cons, List.flatten_cons, List.length_append, List.sum_cons, List.length_cons]; omega
theorem subs_sizes (K : Nat) (x : List Nat) : (subs K x).length ≤ 2 * x.length + 3 ∧ ∀ p ∈ subs K x, p.length ≤ x.length + 4 := by
  have h1 := lnL_len _ x [] (Nat.le_refl _)
  have h2 := flat_sizes K (lnL [] x)
  unfold subs
  constructor
  · rw [List.length_append]
    have : (if closed x then [([] : List Nat)] else []).length ≤ 1 := by split <;> simp
    simp only [List.length_nil] at h1
    omega
  · intro p hp
    rcases List.mem_append.mp hp with hp | hp
    · obtain ⟨m, hm, hpm⟩ := List.mem_flatten.mp hp
      obtain ⟨l, hl, rfl⟩ := List.mem_map.mp hm
      have h3 := (subLine_sizes K l).2 p hpm
      have h4 := mem_len hl
      simp only [List.length_nil] at h1
      omega
    · split at hp
      · rw [List.mem_singleton.mp hp]; simp
      · cases hp
theorem letter_size (K : Nat) (e x : List Nat) (hx : x.length ≤ 300) (he : e.length ≤ 10) : (joinL e (subs K x)).length ≤ 1000000 := by
  have h := subs_sizes K x
  have h1 := join_len e (x.length + 4) _ h.2
  have h2 : (subs K x).length * (x.length + 4 + e.length) ≤ 603 * 314 := Nat.mul_le_mul (by omega) (by omega)
  omega
theorem subS_size (mark : List Nat) : ∀ (t : List Nat) (cr : Bool), (subS mark cr t).length ≤ t.length * (1 + mark.length)
  | [], _ => by simp [subS]
  | c :: t, cr => by
    rw [List.length_cons, Nat.add_mul, Nat.one_mul, subS]
    split
    · have := subS_size mark t true
      rw [List.length_append]; omega
    · split
      · have := subS_size mark t false
        split
        · omega
        · rw [List.length_append]; omega
      · have := subS_size mark t false
        rw [List.length_cons]; omega
theorem subs_free {k : Nat} {T : List Nat} (hk : 3 ≤ k) (hT : ∀ d ∈ T, d < 256) : ∀ p ∈ subs k (encX T), 10 ∉ p ∧ 13 ∉ p := by
  have hlines : lnL [] (encX T) = (lnT [] T).map encX := by
    have := lnL_enc _ T [] (Nat.le_refl _) hT
    rwa [encX_nil] at this
  obtain ⟨hP, _⟩ := lines_dec hk [] _ (lnT_ok _ T [] (Nat.le_refl _) hT (fun d hd => nomatch hd))
  intro p hp
  unfold subs at hp
  rw [hlines] at hp
  rcases List.mem_append.mp hp with hp | hp
  · have h := (hP p hp).1
    constructor
    · intro q; have := h _ q; rw [lb10] at this; cases this
    · intro q; have := h _ q; rw [lb13] at this; cases this
  · split at hp
    · rw [List.mem_singleton.mp hp]; simp
    · cases hp
end Mine
-- text L1
namespace Mine
open PySem.Calls PySem.Spec
/-- what holds once the tokens are known to be as many as n -/
def TokThen (n : Nat) (s : Shared) (P : Prop) : Prop := n ≤ s.toks → P
section
variable {prog : Program} {w : World} {A : Around} {E : Value → Shared → Prop} {s : Shared} {h₀ : Heap} {env : Env} {Q : Flow → Shared → Prop}
theorem execs_tk {M : Model} {n : Nat} {st : Stmt} {rest : List Stmt} (hn : n ≤ s.toks)
    (h : wpAny M A (exec st env) (fun f s' => TokThen n s' (match f with | .next => wpAny M A (execs rest env) Q E s' | f => Q f s')) E s) : wpAny M A (execs (st :: rest) env) Q E s :=
  wpAny_execs_cons (wpAny_with_toks hn (wpAny_mono h (fun _ _ x => x) (fun _ _ x _ => x)))
theorem tok_then {α : Type} {M : Model} {n : Nat} {t : Sem α} {Q : α → Shared → Prop} (hn : n ≤ s.toks) (h : wpAny M A t (fun a s' => TokThen n s' (Q a s')) E s) : wpAny M A t Q E s :=
  wpAny_with_toks hn (wpAny_mono h (fun _ _ x => x) (fun _ _ x _ => x))
/-- a cut behind a statement -/
def CutAt (R : Shared → Prop) (f : Flow) (s : Shared) : Prop := f = .next ∧ R s
theorem execs_cut {M : Model} {n : Nat} {st : Stmt} {rest : List Stmt} (R : Shared → Prop) (hn : n ≤ s.toks)
    (h1 : wpAny M A (exec st env) (fun f s' => CutAt R f s') E s) (h2 : ∀ s', n ≤ s'.toks → R s' → wpAny M A (execs rest env) Q E s') : wpAny M A (execs (st :: rest) env) Q E s :=
  execs_tk hn (wpAny_mono h1 (fun f s' q hs => by obtain ⟨rfl, hR⟩ := q; exact h2 s' hs hR) (fun _ _ x => x))
theorem add_tok {x y : Str} {t u : Tok} {Q : Value → Shared → Prop} (hx : x.length ≠ 0) (hy : y.length ≠ 0) (hsz : x.length + y.length ≤ 1000) (h : Q (.str (x ++ y) s.toks) { s with toks := s.toks + 1 }) : wpAny (model prog w) A (binaryOp .Add (.str x t) (.str y u)) Q E s := by
  refine P.add_str ?_
  rw [if_neg (by simpa using hx), if_neg (by simpa using hy)]
  refine ⟨?_, h⟩
  rw [sizeLine_eq]
  have : (x ++ y).length = x.length + y.length := by rw [← ch_len, ch_app, List.length_append, ch_len, ch_len]
  omega
theorem add_nil {x y : Str} {t u : Tok} {Q : Value → Shared → Prop} (hx : x.length = 0) (h : Q (.str y u) s) : wpAny (model prog w) A (binaryOp .Add (.str x t) (.str y u)) Q E s := by
  refine P.add_str ?_
  rw [if_pos (by simpa using hx)]
  exact h
open PySem.Builtin PySem.Builtin.Str in
theorem rep_same {x y : PySem.Str} {t u : Tok} {Q : Value → Shared → Prop} (hu : u ≠ 0) (h : Q (.str x t) s) : wpAny (model prog w) A (call (.builtin "str.replace") [.str x t, .str y u, .str y u]) Q E s := by
  refine call_gives F.slot_str_replace (typeIs_str _ _ _) F.entry_str_replace (F.args_str_replace_3 _ _ _) (m := .val (.str x t)) ?_ h
  show Gives (if ((occurrences x y 0 x.length (x.length + 1)).isEmpty || (y.length == 0 && y.length == 0)) = true then (do rule "str.replace.nothing"; ret (.str x t)) else
          (do let same ← isSame (.str y u) (.str y u)
              if same = true then (do rule "str.replace.old-is-new"; ret (.str x t)) else
              if tooLong (x.length + (occurrences x y 0 x.length (x.length + 1)).length * y.length) = true then unsupported "str.replace:memory" else
              retStr (glued y (partsBetween x (occurrences x y 0 x.length (x.length + 1)) y.length)))) _
  have e : isSame (.str y u) (.str y u) = pure true := by
    show (if (u == 0 || u == 0) = true then _ else if (u == u) = true then pure true else _ : Sem Bool) = _
    rw [show (u == 0 || u == 0) = false by simp [hu], show (u == u) = true by simp]
    rfl
  cases hc : ((occurrences x y 0 x.length (x.length + 1)).isEmpty || (y.length == 0 && y.length == 0))
  · rw [e]
    exact .rule (.of_eq rfl)
  · exact .rule (.of_eq rfl)
theorem asgNest {m : Str → Option Value} {news : List (Addr × Obj)} {a b c : Str} {pa pb pc tp tp' : Pos} {kk kk' : Nat} {T T' : Addr} {va vb vc : Value} {Q : Unit → Shared → Prop} (hh : A.handled = none) (F : Fr h₀ env.locals s.heap m) (N : News h₀ env.locals s.heap news) (ht : IsTup s.heap T #[va, .ref T']) {nt : Nat} (ht' : (T', tupOf [vb, vc] nt) ∈ news)
    (ha : env.kindOf a = some .local) (hb : env.kindOf b = some .local) (hc : env.kindOf c = some .local)
    (hp : (env.scope.kind == .class || (env.scope.kind == .module && env.locals != env.globals)) = false)
    (h : ∀ h' tk, Fr h₀ env.locals h' (fun y => if y = c then some vc else if y = b then some vb else if y = a then some va else m y) → News h₀ env.locals h' news → Q () { s with heap := h', toks := tk }) :
    wpAny (model prog w) A (assign (.Tuple [.Name a pa, .Tuple [.Name b pb, .Name c pc] kk' tp'] kk tp) env (.ref T)) Q E s := by
  refine unpackN_ F N ht hh rfl rfl fun h₁ F₁ N₁ => ?_
  refine assignInOrder_cons (asgN F₁ N₁ ha hp fun h₂ t₂ F₂ N₂ => ?_)
  refine assignInOrder_cons (unpackN_ (k := kk') F₂ N₂ (items := #[vb, vc]) ⟨_, (N₂ _ ht').1, rfl, _, rfl⟩ hh rfl rfl fun h₃ F₃ N₃ => ?_)
  refine assignInOrder_cons (asgN F₃ N₃ hb hp fun h₄ t₄ F₄ N₄ => ?_)
  refine assignInOrder_cons (asgN F₄ N₄ hc hp fun h₅ t₅ F₅ N₅ => ?_)
  exact assignInOrder_nil (assignInOrder_nil (h h₅ t₅ F₅ N₅))
/-- the loop at hand -/
def ForAt (prog : Program) (w : World) (A : Around) (env : Env) (target : Expr) (body : List Stmt) (Q : Flow → Shared → Prop) (E : Value → Shared → Prop) (it : Value) (s₂ : Shared) : Prop :=
  codeAny (model prog w) A (.forLoop target it body [] env) (fun r s' => match r with | .ok f => Q f s' | .error e => cameBackBy (model prog w) A env E e s') s₂
theorem For_at {n : Nat} {target iter : Expr} {body : List Stmt} {pos : Pos} (hn : n ≤ s.toks)
    (h : wpAny (model prog w) A (eval iter env) (fun xv s₁ => TokThen n s₁ (wpAny (model prog w) A (pyIter xv) (fun it s₂ => ForAt prog w A env target body Q E it s₂) E s₁)) E s)
    (hs : ∀ x, foldedSetIterable iter env x = pure x := by intro _; rfl) :
    wpAny (model prog w) A (exec (.For target iter body [] pos) env) Q E s :=
  wpAny_For (wpAny_with_toks hn (wpAny_mono h (fun _ _ x => x) fun _ _ x _ => x)) hs
theorem enum_loop {n : Nat} {l : Addr} {no : Nat} {vs : List Value} {m₀ : Str → Option Value} {news : List (Addr × Obj)} {a b c : Str} {pa pb pc tp tp' : Pos} {kk kk' : Nat} {body : List Stmt} (Keep : (Str → Option Value) → Prop)
    (hh : A.handled = none) (ha : env.kindOf a = some .local) (hb : env.kindOf b = some .local) (hc : env.kindOf c = some .local)
    (hsc : (env.scope.kind == .class || (env.scope.kind == .module && env.locals != env.globals)) = false)
    (F : Fr h₀ env.locals s.heap m₀) (N : News h₀ env.locals s.heap news) (hm : (l, listOf vs.toArray no) ∈ news) (hk : Keep m₀)
    (htup : ∀ (i : Nat) (v : Value), vs[i]? = some v → ∃ (T : Addr) (vb vc : Value) (nt : Nat), v = Value.ref T ∧ (T, tupOf [vb, vc] nt) ∈ news)
    (turn : ∀ (i : Nat) (T : Addr) (vb vc : Value) (nt : Nat) (t : Tok) (m₁ : Str → Option Value) (h : Heap) (tk : Nat) (e it : Addr) (oe oi : Obj), vs[i]? = some (Value.ref T) → (T, tupOf [vb, vc] nt) ∈ news → Keep m₁ → n ≤ tk → 
      Fr h₀ env.locals h (fun y => if y = c then some vc else if y = b then some vb else if y = a then some (.int i t) else m₁ y) → News h₀ env.locals h ((e, oe) :: (it, oi) :: news) →
      wpAny (model prog w) A (execs body env) (fun f s₂ => match f with
        | .ret v => Q (.ret v) s₂
        | .brk => Q .next s₂
        | _ => ∃ h' tk' m', s₂ = { s with heap := h', toks := tk' } ∧ Fr h₀ env.locals h' m' ∧ News h₀ env.locals h' ((e, oe) :: (it, oi) :: news) ∧ Keep m') E { s with heap := h, toks := tk })
    (done : ∀ h tk m', Fr h₀ env.locals h m' → News h₀ env.locals h news → Keep m' → Q .next { s with heap := h, toks := tk })
    (hE : PassesOwn (model prog w) A env E := by passes_own) :
    wpAny (model prog w) A (call (.type "enumerate") [.ref l]) (fun xv s₁ => TokThen n s₁ (wpAny (model prog w) A (pyIter xv) (fun it s₂ => ForAt prog w A env (.Tuple [.Name a pa, .Tuple [.Name b pb, .Name c pc] kk' tp'] kk tp) body Q E it s₂) E s₁)) E s := by
  have hl : s.heap.IsList l vs.toArray := ⟨_, (N _ hm).1, rfl, _, rfl⟩
  refine call_enumerate_list hl fun h₁ hE₁ hI₁ hsz₁ hk₁ hn => wpAny_pyIter_enum hE₁ ?_
  replace hn : n ≤ s.toks := hn
  have hI0 : h₀.get? s.heap.objs.size = none := next_is_new F
  have hI1 : h₀.get? (s.heap.objs.size + 1) = none := by
    cases e : h₀.get? (s.heap.objs.size + 1) with
    | none => rfl
    | some o => have := Heap.lt_size (F.keep _ _ e); exact absurd this (Nat.not_lt.mpr (Nat.le_succ _))
  have hLlt : env.locals < s.heap.objs.size := F.ns.lt
  have nlt : ∀ p ∈ news, p.1 < s.heap.objs.size := fun p hp => Heap.lt_size (N p hp).1
  generalize s.heap.objs.size = it at *
  show codeAny _ _ _ _ _
  have hei : it + 1 ≠ it := Nat.succ_ne_self _
  have offe : ∀ b, b < it → b ≠ it + 1 ∧ b ≠ it := fun b hb => ⟨Nat.ne_of_lt (Nat.lt_succ_of_lt hb), Nat.ne_of_lt hb⟩
  have lt₀ : ∀ b o, h₀.get? b = some o → b ≠ it + 1 ∧ b ≠ it := fun b o e => ⟨(fun q => by rw [q, hI1] at e; cases e), (fun q => by rw [q, hI0] at e; cases e)⟩
  refine codeAny_forLoop_any (fun k s' => ∃ h' tk m' i old, s' = { s with heap := h', toks := tk } ∧ n ≤ tk ∧ IsEnum h' (it + 1) it (i : Nat) old ∧ h'.IsListIter it l i ∧ Fr h₀ env.locals h' m' ∧ News h₀ env.locals h' news ∧ Keep m' ∧ i ≤ vs.length ∧ k = vs.length + 1 - i) ?_ (vs.length + 1)
    ⟨h₁, s.toks, m₀, 0, .none, rfl, hn, hE₁, hI₁, F.keeps hk₁, N.grown hk₁, hk, Nat.zero_le _, rfl⟩
  rintro k s' ⟨h', tk, m', i, old, rfl, hn', he', hit', F', N', hK, hil, rfl⟩
  have hl' : h'.IsList l vs.toArray := ⟨_, (N' _ hm).1, rfl, _, rfl⟩
  cases hv : vs[i]? with
  | none =>
    have hi' : i = vs.length := Nat.le_antisymm hil (by simpa using hv)
    subst hi'
    refine wpAny_pyNext_enum_end hh he' hit' hl' (by simpa using hv) fun h₂ hk₂ => wpAny_execs_nil ?_
    refine done h₂ _ m' ⟨F'.ns.at' fun o e => hk₂ _ o (offe _ hLlt).2 e, fun b o e => hk₂ b o (lt₀ b o e).2 (F'.keep b o e), F'.above⟩ (fun p hp => ⟨hk₂ _ _ (offe _ (nlt p hp)).2 (N' p hp).1, (N' p hp).2⟩) hK
  | some v =>
    have hlt : i < vs.length := (List.getElem?_eq_some_iff.mp hv).1
    obtain ⟨T, vb, vc, nt, rfl, hT⟩ := htup i v hv
    refine wpAny_pyNext_enum_item he' hit' hl' (x := .ref T) (by simpa using hv) hei fun h₂ he₂ hit₂ hT₂ hsz₂ hk₂ => ?_
    refine wpAny_letOwnedTupleGo_enum he₂ fun h₃ he₃ hs₃ => ?_
    have kp : ∀ b o, b < it → h'.get? b = some o → h₃.get? b = some o := fun b o hb e => hs₃.extBut b o (offe b hb).1 (hk₂ b o (offe b hb).1 (offe b hb).2 e)
    have kp₀ : ∀ b o, h₀.get? b = some o → h₃.get? b = some o := fun b o e => hs₃.extBut b o (lt₀ b o e).1 (hk₂ b o (lt₀ b o e).1 (lt₀ b o e).2 (F'.keep b o e))
    have F₃ : Fr h₀ env.locals h₃ m' := ⟨F'.ns.at' fun o e => kp _ o hLlt e, kp₀, F'.above⟩
    have N₃ : News h₀ env.locals h₃ news := fun p hp => ⟨kp _ _ (nlt p hp) (N' p hp).1, (N' p hp).2⟩
    have hit₃ : h₃.IsListIter it l (i + 1) := hit₂.extBut hs₃.extBut hei.symm
    obtain ⟨oI, eI, rI⟩ := id hit₃
    have NI : News h₀ env.locals h₃ ((it + 1, { cls := .type "enumerate", dict := none, data := .fields #[.none, .bool false, .ref it, rawInt ((i : Int) + 1), .none, .ref T], slots := #[] }) :: (it, oI) :: news) := fun p hp => by
      rcases List.mem_cons.mp hp with rfl | hp
      · exact ⟨he₃, (offe _ hLlt).1.symm, hI1⟩
      · rcases List.mem_cons.mp hp with rfl | hp
        · exact ⟨eI, (offe _ hLlt).2.symm, hI0⟩
        · exact N₃ p hp
    have hTe : h'.objs.size ≠ it + 1 := Nat.ne_of_gt (Heap.lt_size he')
    have ht : IsTup h₃ h'.objs.size #[.int (i : Int) tk, .ref T] := ⟨_, hs₃.extBut _ _ hTe hT₂, rfl, _, rfl⟩
    refine wpAny_with_toks (n := n) (by show n ≤ tk + 1; omega) ?_
    refine asgNest hh F₃ NI ht (List.mem_cons_of_mem _ (List.mem_cons_of_mem _ hT)) ha hb hc hsc fun h₄ tk₄ F₄ N₄ hn₄ => ?_
    replace hn₄ : n ≤ tk₄ := hn₄
    refine wpAny_passesOwn hE (wpAny_mono (wpAny_toks_of (n := n) hn₄ (turn i T vb vc nt tk m' h₄ tk₄ (it + 1) it _ oI hv hT hK hn₄ F₄ N₄)) (fun f s₅ q => ?_) fun _ _ e => e.2)
    have fin : (n ≤ s₅.toks ∧ ∃ h' tk' m', s₅ = { s with heap := h', toks := tk' } ∧ Fr h₀ env.locals h' m' ∧ News h₀ env.locals h' ((it + 1, { cls := .type "enumerate", dict := none, data := .fields #[.none, .bool false, .ref it, rawInt ((i : Int) + 1), .none, .ref T], slots := #[] }) :: (it, oI) :: news) ∧ Keep m') →
        ∃ m, m < vs.length + 1 - i ∧ ∃ h' tk m' i old, s₅ = { s with heap := h', toks := tk } ∧ n ≤ tk ∧ IsEnum h' (it + 1) it (i : Nat) old ∧ h'.IsListIter it l i ∧ Fr h₀ env.locals h' m' ∧ News h₀ env.locals h' news ∧ Keep m' ∧ i ≤ vs.length ∧ m = vs.length + 1 - i := by
      rintro ⟨hn₅, h₅, tk₅, m₅, rfl, F₅, N₅, hK₅⟩
      refine ⟨vs.length + 1 - (i + 1), by omega, h₅, tk₅, m₅, i + 1, .ref T, rfl, hn₅, (N₅ _ List.mem_cons_self).1, ⟨oI, (N₅ _ (List.mem_cons_of_mem _ List.mem_cons_self)).1, rI⟩, F₅, (fun p hp => N₅ p (List.mem_cons_of_mem _ (List.mem_cons_of_mem _ hp))), hK₅, hlt, rfl⟩
    cases f with
    | ret v => exact q.2
    | brk => exact q.2
    | next => exact fin q
    | cont => exact fin q
end
end Mine
-- text L2
namespace Mine
open PySem.Calls PySem.Spec
def itemT (x : Int) : Nat × Nat × Bool := ((itW x).toNat, (itN x).toNat, decide (x < 0))
theorem itL_bd (x : Int) : 0 ≤ itL x ∧ itL x < 64 := by
  unfold itL
  have h := @fm x 8 (by decide)
  have h2 := @fm ((x.fdiv 8).fdiv 3) 64 (by decide)
  generalize ((x.fdiv 8).fdiv 3).fmod 64 = r at h2
  obtain ⟨k, hk⟩ : ∃ k : Nat, x.fmod 8 = k := ⟨(x.fmod 8).toNat, by omega⟩
  rw [hk]
  have hk8 : k < 8 := by omega
  rw [Int.toNat_natCast]
  match k, hk8 with
  | 0, _ => show (0 : Int) ≤ 13 ∧ (13 : Int) < 64; decide
  | 1, _ => show (0 : Int) ≤ 10 ∧ (10 : Int) < 64; decide
  | 2, _ => show (0 : Int) ≤ 32 ∧ (32 : Int) < 64; decide
  | 3, _ => show (0 : Int) ≤ 9 ∧ (9 : Int) < 64; decide
  | 4, _ => show (0 : Int) ≤ 61 ∧ (61 : Int) < 64; decide
  | 5, _ => show (0 : Int) ≤ 30 ∧ (30 : Int) < 64; decide
  | 6, _ => show (0 : Int) ≤ 63 ∧ (63 : Int) < 64; decide
  | 7, _ => exact h2
theorem item_ok (x : Int) : ItemOk (itemT x) ∧ ((itemT x).1 : Int) = itW x ∧ ((itemT x).2.1 : Int) = itN x := by
  have hw : itW x = 1 ∨ itW x = 2 ∨ itW x = 3 := by
    unfold itW
    have := @fm (x.fdiv 8) 3 (by decide)
    omega
  have hl := itL_bd x
  have hN : 0 ≤ itN x ∧ itN x < 64 ^ (itW x).toNat := by
    unfold itN
    rcases hw with h | h | h <;> rw [h]
    · have := @fm (itR x) (64 ^ ((1 : Int) - 1).toNat) (by decide)
      have e : ((64 : Int) ^ ((1 : Int) - 1).toNat) = 1 := by decide
      rw [e] at this ⊢
      have e2 : ((64 : Int) ^ (1 : Int).toNat) = 64 := by decide
      rw [e2]; omega
    · have := @fm (itR x) (64 ^ ((2 : Int) - 1).toNat) (by decide)
      have e : ((64 : Int) ^ ((2 : Int) - 1).toNat) = 64 := by decide
      rw [e] at this ⊢
      have e2 : ((64 : Int) ^ (2 : Int).toNat) = 4096 := by decide
      rw [e2]; omega
    · have := @fm (itR x) (64 ^ ((3 : Int) - 1).toNat) (by decide)
      have e : ((64 : Int) ^ ((3 : Int) - 1).toNat) = 4096 := by decide
      rw [e] at this ⊢
      have e2 : ((64 : Int) ^ (3 : Int).toNat) = 262144 := by decide
      rw [e2]; omega
  refine ⟨⟨?_, ?_⟩, ?_, ?_⟩
  · show (itW x).toNat = 1 ∨ (itW x).toNat = 2 ∨ (itW x).toNat = 3
    omega
  · show (itN x).toNat < 64 ^ (itW x).toNat
    have e : ((64 ^ (itW x).toNat : Nat) : Int) = 64 ^ (itW x).toNat := by simp
    omega
  · show (((itW x).toNat : Nat) : Int) = itW x
    omega
  · show (((itN x).toNat : Nat) : Int) = itN x
    omega
/-- the items' tuples stand in the ledger -/
def ItemsIn (ys : List Value) (tups : List (Addr × Obj)) (its : List (Nat × Nat × Bool)) : Prop :=
  ys.length = its.length ∧ ∀ (i : Nat) (v : Value), ys[i]? = some v → ∃ (T : Addr) (n w k : Nat) (b : Bool) (t1 t2 : Tok), its[i]? = some (w, k, b) ∧ v = .ref T ∧ (T, tupOf [.int (w : Int) t1, .int (k : Int) t2, .bool b] n) ∈ tups
theorem ItemsIn.nil {tups : List (Addr × Obj)} : ItemsIn [] tups [] := ⟨rfl, fun i v h => by simp at h⟩
theorem ItemsIn.mono {ys : List Value} {tups tups' : List (Addr × Obj)} {its : List (Nat × Nat × Bool)} (h : ItemsIn ys tups its) (hs : ∀ p ∈ tups, p ∈ tups') : ItemsIn ys tups' its :=
  ⟨h.1, fun i v hv => by obtain ⟨T, n, w, k, b, t1, t2, h1, h2, h3⟩ := h.2 i v hv; exact ⟨T, n, w, k, b, t1, t2, h1, h2, hs _ h3⟩⟩
theorem ItemsIn.snoc {ys : List Value} {tups : List (Addr × Obj)} {its : List (Nat × Nat × Bool)} {T : Addr} {n w k : Nat} {b : Bool} {t1 t2 : Tok} (h : ItemsIn ys tups its) (hm : (T, tupOf [.int (w : Int) t1, .int (k : Int) t2, .bool b] n) ∈ tups) : ItemsIn (ys ++ [.ref T]) tups (its ++ [(w, k, b)]) := by
  refine ⟨by simp [h.1], fun i v hv => ?_⟩
  by_cases hi : i < ys.length
  · rw [List.getElem?_append_left hi] at hv
    obtain ⟨T, n, w, k, b, t1, t2, h1, h2, h3⟩ := h.2 i v hv
    exact ⟨T, n, w, k, b, t1, t2, by rw [List.getElem?_append_left (by rw [← h.1]; exact hi)]; exact h1, h2, h3⟩
  · have e : i = ys.length := by
      have := (List.getElem?_eq_some_iff.mp hv).1
      simp at this; omega
    subst e
    have hv' : v = .ref T := by simpa using hv.symm
    exact ⟨T, n, w, k, b, t1, t2, by rw [h.1]; simp, hv', hm⟩
theorem ItemsIn.at {h₀ h : Heap} {L l : Addr} {ys : List Value} {news : List (Addr × Obj)} {its : List (Nat × Nat × Bool)} {n : Nat} (hI : ItemsIn ys news its) (N : News h₀ L h news) (hm : (l, listOf ys.toArray n) ∈ news) : ItemsAt h l its :=
  ⟨ys, ⟨_, (N _ hm).1, rfl, n, rfl⟩, hI.1, fun i v hv => by
    obtain ⟨T, n, w, k, b, t1, t2, h1, rfl, h3⟩ := hI.2 i v hv
    exact ⟨T, w, k, b, t1, t2, h1, rfl, _, (N _ h3).1, rfl, _, rfl⟩⟩
section
variable {prog : Program} {w : World} {A : Around} {s : Shared} {h₀ : Heap} {env : Env} {L : Addr} {m : Str → Option Value}
theorem comp_items {elt : Expr} {x : Str} {scope : Scope} {cl : List (Str × Addr)} {S : List (Addr × Obj) → Prop} {P : Nat → Value → Prop} {Fin : List Value → List (Addr × Obj) → Prop} {news₀ : List (Addr × Obj)} (xs : List Int)
    (hP : ∀ i v, P i v → ∃ y t, xs[i]? = some y ∧ v = .int y t) (hS : ∀ tups, S (tups ++ news₀))
    (helt : ∀ (C : Addr) (oC : Obj) (m₂ : Str → Option Value) (y : Int) (t : Tok) (h : Heap) (tk : Nat) (news₁ : List (Addr × Obj)) (E' : Value → Shared → Prop) (Q' : Value → Shared → Prop), LCg.NsObj oC m₂ → m₂ x = some (.int y t) → Fr h₀ L h m → News h₀ L h ((C, oC) :: news₁) →
      (∀ (T : Addr) (n : Nat) (t1 t2 : Tok) (h' : Heap) (tk' : Nat), Fr h₀ L h' m → News h₀ L h' ((T, tupOf [.int (itW y) t1, .int (itN y) t2, .bool (decide (y < 0))] n) :: (C, oC) :: news₁) → h.get? T = none → Q' (.ref T) { s with heap := h', toks := tk' }) →
      wpAny (model prog w) A (eval elt (compEnvC scope cl C env)) Q' E' { s with heap := h, toks := tk })
    (fin : ∀ ys tups, ItemsIn ys tups (xs.map itemT) → Fin ys (tups ++ news₀)) :
    ∀ (k i : Nat) (ys : List Value) (tups : List (Addr × Obj)), i + k = xs.length → ItemsIn ys tups ((xs.take i).map itemT) → LCg.CompRest prog w A h₀ L m env elt x scope cl s S P Fin k i ys (tups ++ news₀) := by
  intro k
  induction k with
  | zero =>
    intro i ys tups hk hI
    rw [show i = xs.length by omega, List.take_length] at hI
    exact LCg.CompRest.zero (fin ys tups hI)
  | succ k ih =>
    intro i ys tups hk hI
    refine LCg.CompRest.succ fun v I oI C oC D m₂ h tk E' hv hC hx F N off ne => ?_
    obtain ⟨y, t, hy, rfl⟩ := hP i v hv
    have hsub : ∀ p ∈ (C, oC) :: (I, oI) :: (D, LCg.lst ys) :: (tups ++ news₀), p ∈ (I, oI) :: (C, oC) :: (D, LCg.lst ys) :: (tups ++ news₀) := by
      intro p hp
      simp only [List.mem_cons] at hp ⊢
      rcases hp with h | h | h | h
      · exact .inr (.inl h)
      · exact .inl h
      · exact .inr (.inr (.inl h))
      · exact .inr (.inr (.inr h))
    refine helt C oC m₂ y t h tk ((I, oI) :: (D, LCg.lst ys) :: (tups ++ news₀)) E' _ hC hx F (fun p hp => N p (hsub p hp)) fun T n t1 t2 h' tk' F' N' hT => ?_
    have hne : ∀ q ∈ (I, oI) :: (C, oC) :: (D, LCg.lst ys) :: (tups ++ news₀), T ≠ q.1 := fun q hq e => by
      have := (N q hq).1
      rw [← e, hT] at this; cases this
    have hok := (item_ok y).2
    refine LCg.CompEnd.intro F' N' ((T, tupOf [.int (itW y) t1, .int (itN y) t2, .bool (decide (y < 0))] n) :: (tups ++ news₀)) ?_ ?_ (hS (_ :: tups)) ?_
    · intro p hp
      simp only [List.mem_cons] at hp ⊢
      rcases hp with h | h | h | h | h
      · exact .inr (.inr (.inl h))
      · exact .inr (.inl h)
      · exact .inr (.inr (.inr (.inl h)))
      · exact .inl h
      · exact .inr (.inr (.inr (.inr h)))
    · refine ⟨⟨hne (I, oI) (by simp), hne (C, oC) (by simp), hne (D, LCg.lst ys) (by simp)⟩, off⟩
    · have := ih (i + 1) (ys ++ [.ref T]) ((T, tupOf [.int (itW y) t1, .int (itN y) t2, .bool (decide (y < 0))] n) :: tups) (by omega) (by
        rw [List.take_add_one, hy]
        simp only [Option.toList_some, List.map_append, List.map_cons, List.map_nil]
        refine ItemsIn.snoc (n := n) (t1 := t1) (t2 := t2) (hI.mono fun p hp => List.mem_cons_of_mem _ hp) ?_
        rw [show ((itW y).toNat : Int) = itW y from hok.1, show ((itN y).toNat : Int) = itN y from hok.2]
        exact List.mem_cons_self)
      exact this
theorem comp_chrs {elt : Expr} {x : Str} {scope : Scope} {cl : List (Str × Addr)} {S : List (Addr × Obj) → Prop} {P : Nat → Value → Prop} {Fin : List Value → List (Addr × Obj) → Prop} {news₀ : List (Addr × Obj)} (xs : List Int) (f : Int → Str)
    (hP : ∀ i v, P i v → ∃ y t, xs[i]? = some y ∧ v = .int y t) (hS : S news₀)
    (helt : ∀ (C : Addr) (oC : Obj) (m₂ : Str → Option Value) (y : Int) (t : Tok) (h : Heap) (tk : Nat) (news₁ : List (Addr × Obj)) (E' : Value → Shared → Prop) (Q' : Value → Shared → Prop), LCg.NsObj oC m₂ → m₂ x = some (.int y t) → Fr h₀ L h m → News h₀ L h ((C, oC) :: news₁) →
      (∀ (t' : Tok) (tk' : Nat), Q' (.str (f y) t') { s with heap := h, toks := tk' }) →
      wpAny (model prog w) A (eval elt (compEnvC scope cl C env)) Q' E' { s with heap := h, toks := tk })
    (fin : ∀ ps : List (Str × Tok), ps.map (·.1) = xs.map f → Fin (strValues ps) news₀) :
    ∀ (k i : Nat) (ps : List (Str × Tok)), i + k = xs.length → ps.map (·.1) = (xs.take i).map f → LCg.CompRest prog w A h₀ L m env elt x scope cl s S P Fin k i (strValues ps) news₀ := by
  intro k
  induction k with
  | zero =>
    intro i ps hk hI
    rw [show i = xs.length by omega, List.take_length] at hI
    exact LCg.CompRest.zero (fin ps hI)
  | succ k ih =>
    intro i ps hk hI
    refine LCg.CompRest.succ fun v I oI C oC D m₂ h tk E' hv hC hx F N off ne => ?_
    obtain ⟨y, t, hy, rfl⟩ := hP i v hv
    have hsub : ∀ p ∈ (C, oC) :: (I, oI) :: (D, LCg.lst (strValues ps)) :: news₀, p ∈ (I, oI) :: (C, oC) :: (D, LCg.lst (strValues ps)) :: news₀ := by
      intro p hp
      simp only [List.mem_cons] at hp ⊢
      rcases hp with h | h | h | h
      · exact .inr (.inl h)
      · exact .inl h
      · exact .inr (.inr (.inl h))
      · exact .inr (.inr (.inr h))
    refine helt C oC m₂ y t h tk ((I, oI) :: (D, LCg.lst (strValues ps)) :: news₀) E' _ hC hx F (fun p hp => N p (hsub p hp)) fun t' tk' => ?_
    refine LCg.CompEnd.intro F N news₀ (fun p hp => hp) off hS ?_
    have := ih (i + 1) (ps ++ [(f y, t')]) (by omega) (by
      rw [List.take_add_one, hy]
      simp [hI])
    have e : strValues (ps ++ [(f y, t')]) = strValues ps ++ [.str (f y) t'] := by simp [strValues]
    rw [e] at this
    exact this
end
end Mine
-- text L4
namespace Mine
open PySem.Calls PySem.Spec
/-- a row that is told: its text's last octet, and the mark -/
def RowOk (its : List (Nat × Nat × Bool)) (mark : List Nat) : Prop :=
  its.length ≤ 20 ∧ (∀ it ∈ its, ItemOk it) ∧ ∃ T' c, textOf its = T' ++ [c] ∧ ((c = 13 ∨ c = 10) ∨ (mark ≠ [] ∧ c ≠ 13 ∧ c ≠ 10 ∧ c ≠ 32 ∧ c ≠ 9))
theorem textOf_app (a b : List (Nat × Nat × Bool)) : textOf (a ++ b) = textOf a ++ textOf b := by simp [textOf]
theorem items_all (xs : List Int) : ∀ it ∈ xs.map itemT, ItemOk it := fun it h => by
  obtain ⟨x, _, rfl⟩ := List.mem_map.mp h
  exact (item_ok x).1
theorem row_open (ns : List Int) {mark : List Nat} (hm : mark ≠ []) : RowOk (List.map itemT (List.take 12 ns ++ [33, 98301, 2, 0, 1, 40, 4])) mark := by
  refine ⟨by simp; omega, items_all _, textOf (List.map itemT (List.take 12 ns ++ [33, 98301, 2, 0, 1, 40])), 61, ?_, .inr ⟨hm, by decide, by decide, by decide, by decide⟩⟩
  rw [show List.take 12 ns ++ [33, 98301, 2, 0, 1, 40, 4] = (List.take 12 ns ++ [33, 98301, 2, 0, 1, 40]) ++ [4] by simp, List.map_append, textOf_app]
  congr 1
theorem row_closed (ns : List Int) {mark : List Nat} {c : Nat} (hc : c = 13 ∨ c = 10) : RowOk (List.map itemT (List.take 12 ns ++ [33, 98301, 2, 0, 1, 40, 4]) ++ [(1, c, false)]) mark := by
  refine ⟨by simp; omega, fun it h => ?_, textOf (List.map itemT (List.take 12 ns ++ [33, 98301, 2, 0, 1, 40, 4])), c, ?_, .inl hc⟩
  · rcases List.mem_append.mp h with h | h
    · exact items_all _ it h
    · rw [List.mem_singleton.mp h]
      refine ⟨.inl rfl, ?_⟩
      show c < 64 ^ 1
      omega
  · rw [textOf_app]
    congr 1
    rcases hc with rfl | rfl <;> rfl
theorem octs_lt {it : Nat × Nat × Bool} : ∀ d ∈ octs it, d < 256 := by
  obtain ⟨w, n, b⟩ := it
  intro d hd
  unfold octs at hd
  simp only [List.mem_append, List.mem_singleton] at hd
  rcases hd with (hd | hd) | hd
  · split at hd
    · rw [List.mem_singleton.mp hd]; omega
    · cases hd
  · split at hd
    · rw [List.mem_singleton.mp hd]; omega
    · cases hd
  · rw [hd]; split <;> omega
theorem textOf_lt (its : List (Nat × Nat × Bool)) : ∀ d ∈ textOf its, d < 256 := by
  intro d hd
  unfold textOf at hd
  obtain ⟨it, _, h⟩ := List.mem_flatMap.mp hd
  exact octs_lt d h
/-- the letter is read -/
theorem law_plain {its : List (Nat × Nat × Bool)} {mark e pad : List Nat} {k : Nat} {x : Str} (hrow : RowOk its mark) (hk : 3 ≤ k) (he : EndOk e) (hpad : ∀ c ∈ pad, c = 32 ∨ c = 9)
    (hx : ch x = joinL (pad ++ e) (subs k (encX (textOf its)))) (hm : mark.length ≤ 3) (hp2 : pad.length ≤ 2) :
    x.length ≤ 1000000 ∧ (decPre mark (Txt.lines x)).length ≤ 1000000 ∧ (decF x mark).length ≤ 2000 ∧ readAll (decF x mark) = dueF its mark := by
  obtain ⟨h20, hok, T', c, hT, hc⟩ := hrow
  have hlt := textOf_lt its
  have hTl := textOf_len its
  have hxl := flatC_len (textOf its)
  have hel : e.length ≤ 2 := by rcases he with rfl | rfl | rfl <;> simp
  have hsz := letter_size k (pad ++ e) (encX (textOf its)) (by show ((textOf its).flatMap encC).length ≤ 300; omega) (by rw [List.length_append]; omega)
  have hsub := subS_size mark (textOf its) false
  have hsub2 : (textOf its).length * (1 + mark.length) ≤ 60 * 4 := Nat.mul_le_mul (by omega) (by omega)
  obtain ⟨d1, d2⟩ := dec_letter (x := x) hk he hpad (by rw [← hT]; exact hlt) hc (by rw [← hT]; exact hx)
  rw [← hT] at d1 d2
  refine ⟨by rw [← ch_len, hx]; exact hsz, by omega, by rw [d1]; omega, ?_⟩
  rw [d1]
  exact due_read its mark hok
theorem rep_letter {its : List (Nat × Nat × Bool)} {k : Nat} {x y z : Str} (hk : 3 ≤ k) (he : EndOk (ch y)) (hx : ch x = encF k (ch y) (textOf its)) : ch (Txt.replace x y z) = joinL (ch z) (subs k (encX (textOf its))) := by
  have hlt := textOf_lt its
  rw [encF_subs] at hx
  have hfree := subs_free hk hlt
  have hne : subs k (encX (textOf its)) ≠ [] ∨ subs k (encX (textOf its)) = [] := by
    by_cases h : subs k (encX (textOf its)) = []
    · exact .inr h
    · exact .inl h
  rcases hne with hne | hne
  · rcases he with h | h | h
    · exact replace_join h hne (fun p hp => (hfree p hp).1) hx
    · exact replace_join h hne (fun p hp => (hfree p hp).2) hx
    · exact replace_join h hne (fun p hp => (hfree p hp).2) hx
  · rw [hne] at hx ⊢
    have h0 : x.length = 0 := by rw [← ch_len, hx]; rfl
    have hy1 : 1 ≤ y.length := by rw [← ch_len]; rcases he with h | h | h <;> rw [h] <;> simp
    show ch (Txt.replace x y z) = []
    rw [← show ch x = [] from hx]
    congr 1
    unfold Txt.replace
    have e : PySem.Builtin.Str.occurrences x y 0 x.length (x.length + 1) = [] := by
      obtain ⟨f, hG, hn⟩ := PySem.StrLaws.occ_tight x y hy1
      cases ho : PySem.Builtin.Str.occurrences x y 0 x.length (x.length + 1) with
      | nil => rfl
      | cons c r =>
        rw [ho] at hG
        have := hG.2.1.1
        omega
    rw [e]; simp
theorem pad_slice (l u : Option Int) : (∀ c ∈ ch (Txt.slice (Str.ofString " \t") l u), c = 32 ∨ c = 9) ∧ (Txt.slice (Str.ofString " \t") l u).length ≤ 2 := by
  have h := slice_gen (Str.ofString " \t") l u
  have e : ch (Str.ofString " \t") = [32, 9] := by decide +kernel
  rw [e] at h
  constructor
  · intro c hc
    rw [h] at hc
    have := List.mem_of_mem_drop (List.mem_of_mem_take hc)
    simpa using this
  · rw [← ch_len, h, List.length_take, List.length_drop]
    simp only [List.length_cons, List.length_nil]
    omega
section
variable {prog : Program} {w : World} {A : Around} {E : Value → Shared → Prop} {s : Shared} {h₀ : Heap} {L : Addr} {news : List (Addr × Obj)}
theorem subTup3 {value slice : Expr} {D : Addr} {a b c : Value} {n : Nat} {i : Int} {u : Tok} {Q : Value → Shared → Prop} (N : News h₀ L s.heap news) (hm : (D, tupOf [a, b, c] n) ∈ news) (h0 : 0 ≤ i) (h1 : i < 3)
    (h : ∀ v, (v = a ∨ v = b ∨ v = c) → Q v s) (hs : subscripted slice false (.ref D) (.int i u) = operate [.ref D, .int i u] (getItem (.ref D) (.int i u)) := by with_unfolding_all rfl) :
    wpAny (model prog w) A (subscriptTail value slice (.ref D) (.int i u)) Q E s := by
  obtain ⟨j, hj⟩ : ∃ j : Nat, i = j := ⟨i.toNat, by omega⟩
  have hj3 : j < 3 := by omega
  obtain ⟨v, hv, hq⟩ : ∃ v, ([a, b, c] : List Value)[j]? = some v ∧ (v = a ∨ v = b ∨ v = c) := by
    match j, hj3 with
    | 0, _ => exact ⟨a, rfl, .inl rfl⟩
    | 1, _ => exact ⟨b, rfl, .inr (.inl rfl)⟩
    | 2, _ => exact ⟨c, rfl, .inr (.inr rfl)⟩
  refine tail_any (T := "tuple") ⟨_, (N _ hm).1, rfl⟩ slot_tuple_getitem.lookup ?_ hs
  exact getItem_tuple (j := j) (x := v) (items := [a, b, c].toArray) ⟨_, (N _ hm).1, rfl, n, rfl⟩ (by omega) (by omega) (hj ▸ seqIndex_of (by omega) (by simp; omega)) (by simpa using hv) (h v hq)
theorem add_any {x y : Str} {t u : Tok} {Q : Value → Shared → Prop} (hy : y.length ≠ 0) (hsz : x.length + y.length ≤ 1000)
    (h : ∀ y2 v tk', ch y2 = ch x ++ ch y → ((y2 = y ∧ v = u) ∨ (v = s.toks ∧ (y == y2) = false)) → Q (.str y2 v) { s with toks := tk' }) : wpAny (model prog w) A (binaryOp .Add (.str x t) (.str y u)) Q E s := by
  by_cases hx : x.length = 0
  · refine add_nil hx (h y u s.toks ?_ (.inl ⟨rfl, rfl⟩))
    have : ch x = [] := List.eq_nil_of_length_eq_zero (by rw [ch_len]; exact hx)
    rw [this]; rfl
  · refine add_tok hx hy hsz (h _ _ _ (ch_app x y) (.inr ⟨rfl, ?_⟩))
    cases hb : y == (x ++ y) with
    | false => rfl
    | true =>
      have := congrArg (fun z : Str => (ch z).length) (eq_of_beq hb)
      simp only [ch_app, List.length_append, ch_len] at this
      omega
theorem rep_any {x y y2 : Str} {t u v : Tok} {ps : List (List Nat)} {Q : Value → Shared → Prop} (hu : u ≠ 0) (hd : (y2 = y ∧ v = u) ∨ (v ≠ 0 ∧ u ≠ v ∧ (y == y2) = false)) (hx : ch x = joinL (ch y) ps) (hr : ch (Txt.replace x y y2) = joinL (ch y2) ps)
    (hl : x.length ≤ 1000000) (hl2 : y2.length ≤ 10)
    (h : ∀ x' t' k, ch x' = joinL (ch y2) ps → Q (.str x' t') { s with toks := k }) : wpAny (model prog w) A (call (.builtin "str.replace") [.str x t, .str y u, .str y2 v]) Q E s := by
  rcases hd with ⟨rfl, rfl⟩ | ⟨h1, h2, h3⟩
  · exact rep_same hu (h x t s.toks hx)
  · refine SC.replace hu h1 h2 h3 ?_ (fun t' k => h _ t' k hr)
    have : (x.length + 1) * y2.length ≤ 1000001 * 10 := Nat.mul_le_mul (by omega) hl2
    omega
end
end Mine
-- text L3
namespace Mine
open PySem.Calls PySem.Spec
set_option maxRecDepth 100000
set_option maxHeartbeats 8000000
/-- a mark in the context -/
def MarkH : Prop := True
def MarkS : Prop := True
theorem hdAsEq (P : Params) : hdAs = (hdK P).map (·.1) := by kernel_rfl
theorem hdSaid : PySem.Challenge.rw_ny0161_01.wellSaid = true := by
  rw [PySem.W.Fast.te9446332074065402090]
  kernel_rfl
section
local macro_rules | `(tactic| k_qdec) => `(tactic| first | (rw [PySem.W.Fast.te17448422675489707002]; kernel_rfl) | (rw [PySem.W.Fast.te2458874890965802552]; kernel_rfl))
local macro_rules | `(tactic| walk_at $k:str) => do
  if ["call builtin:str.replace", "subscriptTail Tuple BinOp ref int", "CutAt", "exec Assign cons ListComp", "TokThen", "call ref", "eval ListComp", "call builtin:str.join", "call type:enumerate", "CompSrc"].contains k.getString then `(tactic| refine Stop.out ?_) else Lean.Macro.throwUnsupported
local macro_rules | `(tactic| walk_at "Exists") => `(tactic| ((rename MarkH => mkr'); refine Stop.out ?_))
local macro_rules | `(tactic| walk_at "subscriptTail") => `(tactic| ((rename MarkS => mks'); (with_reducible show wpAny _ _ (subscriptTail _ _ (Value.str _ _) (Value.ref _)) _ _ _); refine Stop.out ?_))
local macro_rules | `(tactic| walk_at "binaryOp Add str str") => `(tactic| ((rename MarkH => mkr'); refine Stop.out ?_))
local macro_rules | `(tactic| walk_at "subscriptTail") => `(tactic| ((with_reducible show wpAny _ _ (subscriptTail _ _ (Value.ref _) (Value.int _ _)) _ _ _); refine Stop.out ?_))
theorem law1 : PySem.Challenge.rw_ny0161_01.Holds := by
  refine holds_law hdSaid fun said => ?_
  refine holds_open (q := hdView) (loose := hdLoose) (Xt := hdX) (XP := XL hdView hdLv) (Yf := Hook.obs (kHook hdK hdAs hdAsEq)) (Ya := Hook.val (kHook hdK hdAs hdAsEq)) (YP := Hook.says (kHook hdK hdAs hdAsEq)) (N := 35324) hdLeft (Hook.of (kHook hdK hdAs hdAsEq)) (Hook.keeps (kHook hdK hdAs hdAsEq)) (fun s e => xl_of s (Bool.and_eq_true_iff.mp e).1) XL.keeps (by rfl) (by rfl) (by rfl) (fun s e => recFacts_of (Bool.and_eq_true_iff.mp e).2) (by rfl) said (by decide +kernel) ⟨rfl, rfl, rfl, rfl, rfl, by decide +kernel⟩ ?hw ?hc
  case hw => w_witness2
  clear said
  k_go0
  (all_goals try k_fold)
  rename List Int => ns
  rename Shared => s1
  refine execs_tk (n := 1) (Nat.le_add_left _ _) ?_
  k_steps
  unfold Stop TokThen
  intro htk1
  dsimp only at htk1 ⊢
  refine execs_tk (n := 1) htk1 ?_
  refine LCg.Assign_ListComp_U (F₀ := by k_asm) (by rfl) (by with_unfolding_all rfl) (by rfl) (by decide) (by rfl) (by decide) (by rfl) (by rfl) (by rfl) ?_
  k_steps
  unfold Stop
  rename_i D1 ws1 h2 hI1 hC1 hL1 l2 lb hb l1b D ws hh F N hI l1
  refine LCg.CompSrc.ledger (by rfl) F N List.mem_cons_self (by simp only [List.size_toArray, hI.length, PySem.sizeLine_eq, List.length_append, List.length_take, List.length_cons, List.length_nil]; omega) ?_
  intro g'
  refine comp_items _ (fun i v hv => ?hP) (fun tups => Or.inr ⟨_, List.mem_append.mpr (.inr List.mem_cons_self), rfl, _, rfl⟩) (fun C oC m₂ y t h tk news₁ E' Q' hoC hmx F3 N3 hret => ?helt) (fun ys tups hIn => ?fin) _ 0 [] [] (by rw [Nat.zero_add, List.size_toArray, hI.length]) ItemsIn.nil
  case hP =>
    obtain ⟨k, t, e, hk⟩ := IntsAre.at hI i v (by simpa using hv)
    exact ⟨k, t, hk, e⟩
  case helt =>
    try k_fold
    k_steps
    unfold Stop
    refine (item_cl y t).use (by with_reducible assumption) F3 (by with_reducible assumption) N3 (by with_reducible assumption) rfl trivial (by decide) (by decide) ?_
    rintro v nw h9 tk9 ⟨l9, n9, t1, t2, rfl, rfl⟩ F9 N9 hn9 _
    exact hret _ _ _ _ _ _ F9 N9 (hn9 _ List.mem_cons_self)
  case fin =>
    intro D9 h9 tk9 F9 N9 off9
    clear F N
    unfold TokThen
    intro htk2
    dsimp only at htk2 ⊢
    have NA : News _ _ h9 ((D9, listOf ys.toArray ys.length) :: tups) := fun p hp => N9 p (by
      rcases List.mem_cons.mp hp with h | h
      · exact List.mem_cons.mpr (.inl h)
      · exact List.mem_cons.mpr (.inr (List.mem_append.mpr (.inl h))))
    clear N9 off9
    refine execs_tk (n := 1) htk2 ?_
    k_steps
    unfold Stop
    refine LCg.ListComp_U (F₀ := by k_asm) (by rfl) (by decide) (by rfl) (by decide) (by rfl) ?_
    k_steps
    unfold Stop
    skip
    rename_i Dd wd hd Fd Nd hId hCd hLd l1d
    refine LCg.CompSrc.ledger (by rfl) Fd Nd List.mem_cons_self (by simp only [List.size_toArray, hId.length, PySem.sizeLine_eq]; omega) ?_
    intro g2
    refine comp_chrs (List.drop (ns.length - 2) ns) (fun y => ⟨#[(y.fmod 256).toNat]⟩) (fun i v hv => ?hP) (Or.inr ⟨_, List.mem_cons_self, rfl, _, rfl⟩) (fun C oC m₂ y t h tk news₁ E' Q' hoC hmx F3 N3 hret => ?helt) (fun ps hps => ?fin) _ 0 [] (by rw [Nat.zero_add, List.size_toArray, hId.length]) rfl
    case hP =>
      obtain ⟨k, t, e, hk⟩ := IntsAre.at hId i v (by simpa using hv)
      exact ⟨k, t, hk, e⟩
    case helt =>
      have hy := @fm y 256 (by decide)
      try k_fold
      k_steps
      exact hret _ _
    case fin =>
      intro D3 h3 tk3 F3 N3 off3
      clear Fd Nd off3
      have hpl : ps.length ≤ 2 := by
        have := congrArg List.length hps
        rw [List.length_map, List.length_map] at this
        omega
      have hp1 : chp ps = (List.map (fun y : Int => (y.fmod 256).toNat) (List.drop (ns.length - 2) ns)).map (fun c => [c]) := by
        have := congrArg (List.map ch) hps
        rw [chp_map] at this
        rw [this, List.map_map, List.map_map]
        rfl
      k_steps
      unfold Stop
      refine call_join_N (ps := ps) N3 List.mem_cons_self (by omega) (fun q hq => ?_) (by decide) (fun z t' k hz => ?_)
      · rw [hp1] at hq
        obtain ⟨_, _, rfl⟩ := List.mem_map.mp hq
        simp
      rw [hp1, joinL_one] at hz
      have hzl : z.length ≤ 2 := by
        rw [← ch_len, hz, List.length_map]; omega
      k_steps
      unfold Stop TokThen
      intro htk3
      dsimp only at htk3 ⊢
      rename_i td kd hadd hd4 F4 N4
      have hdr : ch (z ++ Str.ofString "A") = List.map (fun y : Int => (y.fmod 256).toNat) (List.drop (ns.length - 2) ns) ++ [65] := by
        rw [ch_app, hz, show ch (Str.ofString "A") = [65] by decide +kernel]
      generalize z ++ Str.ofString "A" = dr at hdr F4 hadd
      have N5 : News _ _ hd4 ((D9, listOf ys.toArray ys.length) :: tups) := fun p hp => N4 p (List.mem_cons_of_mem _ (List.mem_cons_of_mem _ hp))
      clear N4
      refine wpAny_execs_cons ?_
      refine For_at (n := 1) htk3 ?_
      k_steps
      unfold Stop
      rename_i DA hA l1A DB hB l1B DC hC l1C ll hl4 F6 N6 l1l
      obtain ⟨nb, N7, hll, hDA, hDB, hDC, hD9, htups⟩ : ∃ nb, News s1.heap s1.heap.objs.size hl4 nb ∧ (ll, listOf [Value.ref DA, Value.ref DB, Value.ref DC].toArray 0) ∈ nb ∧ (DA, tupOf [.str (Str.ofString "\n") (kd + 1), .bool false] 0) ∈ nb ∧ (DB, tupOf [.str (Str.ofString "") (kd + 1 + 1), .bool true] 0) ∈ nb ∧ (DC, tupOf [.str dr td, .bool (ns.sum.fmod 2 == 1)] 0) ∈ nb ∧ (D9, listOf ys.toArray ys.length) ∈ nb ∧ (∀ p ∈ tups, p ∈ nb) :=
        ⟨_, N6, List.Mem.head _, List.Mem.tail _ (List.Mem.tail _ (List.Mem.tail _ (List.Mem.head _))), List.Mem.tail _ (List.Mem.tail _ (List.Mem.head _)), List.Mem.tail _ (List.Mem.head _), List.Mem.tail _ (List.Mem.tail _ (List.Mem.tail _ (List.Mem.tail _ (List.Mem.head _)))), fun p hp => List.Mem.tail _ (List.Mem.tail _ (List.Mem.tail _ (List.Mem.tail _ (List.Mem.tail _ hp))))⟩
      refine enum_loop (n := 1) (vs := [.ref DA, .ref DB, .ref DC]) (no := 0) (fun m => (∃ t, m (Str.ofString "total") = some (.int ns.sum t)) ∧ m (Str.ofString "items") = some (.ref D9)) rfl rfl rfl rfl rfl F6 N7 hll ⟨⟨_, rfl⟩, rfl⟩ (fun i v hv => ?htup) (fun i T vb vc nt t m₁ h tk e it oe oi hv hT hK hn F N => ?turn) (fun h tk m' F N hK => ?done)
      case htup =>
        match i, hv with
        | 0, hv => exact ⟨DA, _, _, 0, (Option.some.inj hv).symm, hDA⟩
        | 1, hv => exact ⟨DB, _, _, 0, (Option.some.inj hv).symm, hDB⟩
        | 2, hv => exact ⟨DC, _, _, 0, (Option.some.inj hv).symm, hDC⟩
        | i + 3, hv => simp at hv
      case done =>
        dsimp only
        k_steps
      case turn =>
        have huniq : ∀ vb' vc' nt', (T, tupOf [vb', vc'] nt') ∈ nb → vb = vb' ∧ vc = vc' := by
          intro vb' vc' nt' hm
          have h1 := (N _ (List.mem_cons_of_mem _ (List.mem_cons_of_mem _ hT))).1
          have h2 := (N _ (List.mem_cons_of_mem _ (List.mem_cons_of_mem _ hm))).1
          have h3 := Option.some.inj (h1.symm.trans h2)
          injection h3 with _ _ h4
          injection h4 with h5 h6
          have h7 := congrArg Array.toList h5
          simp at h7
          exact h7
        have hmk : ∃ (mk : Str) (tm : Tok) (cl : Bool), vb = .str mk tm ∧ vc = .bool cl ∧ i ≤ 2 ∧ mk.length ≤ 3 ∧ (cl = true ∨ ch mk ≠ []) := by
          match i, hv with
          | 0, hv =>
            have e : DA = T := by injection (Option.some.inj hv)
            subst e
            obtain ⟨rfl, rfl⟩ := huniq _ _ 0 hDA
            exact ⟨_, _, _, rfl, rfl, by omega, by decide, .inr (by decide +kernel)⟩
          | 1, hv =>
            have e : DB = T := by injection (Option.some.inj hv)
            subst e
            obtain ⟨rfl, rfl⟩ := huniq _ _ 0 hDB
            exact ⟨_, _, _, rfl, rfl, by omega, by decide, .inl rfl⟩
          | 2, hv =>
            have e : DC = T := by injection (Option.some.inj hv)
            subst e
            obtain ⟨rfl, rfl⟩ := huniq _ _ 0 hDC
            refine ⟨_, _, _, rfl, rfl, by omega, ?_, .inr ?_⟩
            · rw [← ch_len, hdr]; simp; omega
            · rw [hdr]; simp
          | i + 3, hv => simp at hv
        obtain ⟨mk, tm, cl, rfl, rfl, hi2, hmk3, hmkc⟩ := hmk
        clear huniq F6 N6 N7 hll hDA hDB hDC hT hv
        have hD9' : (D9, listOf ys.toArray ys.length) ∈ (e, oe) :: (it, oi) :: nb := List.Mem.tail _ (List.Mem.tail _ hD9)
        have hIn' : ItemsIn ys ((e, oe) :: (it, oi) :: nb) (List.map itemT (List.take 12 ns ++ [33, 98301, 2, 0, 1, 40, 4])) := hIn.mono fun p hp => List.Mem.tail _ (List.Mem.tail _ (htups p hp))
        replace N : News s1.heap s1.heap.objs.size h ((e, oe) :: (it, oi) :: nb) := N
        obtain ⟨⟨tt, hKt⟩, hKi⟩ := hK
        obtain ⟨m2, hm2⟩ : ∃ m2 : Str → Option Value, m₁ = (fun y => if y = Str.ofString "total" then some (.int ns.sum tt) else if y = Str.ofString "items" then some (.ref D9) else m2 y) := ⟨m₁, by
          funext y
          by_cases h1 : y = Str.ofString "total"
          · rw [if_pos h1, h1, hKt]
          · rw [if_neg h1]
            by_cases h2 : y = Str.ofString "items"
            · rw [if_pos h2, h2, hKi]
            · rw [if_neg h2]⟩
        subst hm2
        clear hKt hKi
        replace F : Fr s1.heap s1.heap.objs.size h (fun y => if y = Str.ofString "closed" then some (.bool cl) else if y = Str.ofString "mark" then some (.str mk tm) else if y = Str.ofString "k" then some (.int i t) else if y = Str.ofString "total" then some (.int ns.sum tt) else if y = Str.ofString "items" then some (.ref D9) else m2 y) := F
        refine execs_cut (n := 1) (fun s' => ∃ (h' : Heap) (tk' : Nat) (lr : Addr) (ysr : List Value) (nr : Nat) (its : List (Nat × Nat × Bool)) (newsr : List (Addr × Obj)), s' = { s1 with heap := h', toks := tk' } ∧
          Fr s1.heap s1.heap.objs.size h' (fun y => if y = Str.ofString "row" then some (.ref lr) else if y = Str.ofString "closed" then some (.bool cl) else if y = Str.ofString "mark" then some (.str mk tm) else if y = Str.ofString "k" then some (.int i t) else if y = Str.ofString "total" then some (.int ns.sum tt) else if y = Str.ofString "items" then some (.ref D9) else m2 y) ∧
          News s1.heap s1.heap.objs.size h' newsr ∧ (lr, listOf ysr.toArray nr) ∈ newsr ∧ ItemsIn ysr newsr its ∧ RowOk its (ch mk) ∧ (∀ p ∈ (e, oe) :: (it, oi) :: nb, p ∈ newsr)) hn ?row ?rest
        case row =>
          generalize hnb2 : (e, oe) :: (it, oi) :: nb = nb2 at N hD9' hIn'
          k_steps
          · rename_i hcl hi1 Dt h5 l1t Dl h6 F6 N6 l1l
            refine add_lists F6 N6 (vs := ys) (ws := [Value.ref Dt]) ⟨_, (N6 _ (List.Mem.tail _ (List.Mem.tail _ hD9'))).1, rfl, _, rfl⟩ ⟨_, (N6 _ (List.Mem.head _)).1, rfl, _, rfl⟩ (fun h7 F7 N7 => ?_) (by rw [hIn'.1]; simp only [PySem.sizeLine_eq, List.length_map, List.length_append, List.length_take, List.length_cons, List.length_nil]; omega)
            clear F6 N6
            dsimp only at N7 ⊢
            generalize h6.objs.size = D7 at N7 ⊢
            k_steps
            unfold Stop
            rename_i h8 F8 N8
            exact ⟨rfl, _, _, D7, ys ++ [.ref Dt], _, _, _, rfl, F8, N8, List.Mem.head _, ItemsIn.snoc (n := 0) (w := 1) (k := 13) (b := false) (hIn'.mono fun p hp => List.Mem.tail _ (List.Mem.tail _ (List.Mem.tail _ hp))) (List.Mem.tail _ (List.Mem.tail _ (List.Mem.head _))), row_closed ns (.inl rfl), fun p hp => List.Mem.tail _ (List.Mem.tail _ (List.Mem.tail _ (hnb2 ▸ hp)))⟩
          · rename_i hcl hi1 Dt h5 l1t Dl h6 F6 N6 l1l
            refine add_lists F6 N6 (vs := ys) (ws := [Value.ref Dt]) ⟨_, (N6 _ (List.Mem.tail _ (List.Mem.tail _ hD9'))).1, rfl, _, rfl⟩ ⟨_, (N6 _ (List.Mem.head _)).1, rfl, _, rfl⟩ (fun h7 F7 N7 => ?_) (by rw [hIn'.1]; simp only [PySem.sizeLine_eq, List.length_map, List.length_append, List.length_take, List.length_cons, List.length_nil]; omega)
            clear F6 N6
            dsimp only at N7 ⊢
            generalize h6.objs.size = D7 at N7 ⊢
            k_steps
            unfold Stop
            rename_i h8 F8 N8
            exact ⟨rfl, _, _, D7, ys ++ [.ref Dt], _, _, _, rfl, F8, N8, List.Mem.head _, ItemsIn.snoc (n := 0) (w := 1) (k := 10) (b := false) (hIn'.mono fun p hp => List.Mem.tail _ (List.Mem.tail _ (List.Mem.tail _ hp))) (List.Mem.tail _ (List.Mem.tail _ (List.Mem.head _))), row_closed ns (.inr rfl), fun p hp => List.Mem.tail _ (List.Mem.tail _ (List.Mem.tail _ (hnb2 ▸ hp)))⟩
          · unfold Stop
            rename_i hcl h6 F6 N6
            exact ⟨rfl, _, _, D9, ys, _, _, nb2, rfl, F6, N6, hD9', hIn', row_open ns (hmkc.resolve_left (by rw [hcl]; exact Bool.false_ne_true)), fun p hp => hnb2 ▸ hp⟩
        case rest =>
          rintro s' htk5 ⟨h5, tk5, lr, ysr, nr, its, newsr, rfl, F5, N5, hlr, hIr, hrow, hsub⟩
          dsimp only at htk5
          clear F N hD9' hIn'
          have mkr : MarkH := trivial
          refine execs_cut (n := 1) (fun s' => ∃ (h' : Heap) (tk' : Nat) (ee : Str) (u : Tok), s' = { s1 with heap := h', toks := tk' } ∧
            Fr s1.heap s1.heap.objs.size h' (fun y => if y = Str.ofString "ends" then some (.str ee u) else if y = Str.ofString "row" then some (.ref lr) else if y = Str.ofString "closed" then some (.bool cl) else if y = Str.ofString "mark" then some (.str mk tm) else if y = Str.ofString "k" then some (.int i t) else if y = Str.ofString "total" then some (.int ns.sum tt) else if y = Str.ofString "items" then some (.ref D9) else m2 y) ∧
            News s1.heap s1.heap.objs.size h' newsr ∧ EndOk (ch ee) ∧ 0 < u ∧ u < tk') htk5 ?ends ?rest2
          case ends =>
            have h3 := @fm (ns.sum + i) 3 (by decide)
            k_steps
            unfold Stop
            rename_i D6 h6 F6 N6 l6
            refine subTup3 N6 (List.Mem.head _) h3.1 h3.2 (fun v hv => ?_)
            have hv' : ∃ (ee : Str) (u : Tok), v = .str ee u ∧ EndOk (ch ee) ∧ 0 < u ∧ u < tk5 + 3 := by
              rcases hv with rfl | rfl | rfl
              · exact ⟨_, _, rfl, .inl (by decide +kernel), htk5, by show tk5 < tk5 + 3; omega⟩
              · exact ⟨_, _, rfl, .inr (.inl (by decide +kernel)), by show 0 < tk5 + 1; omega, by show tk5 + 1 < tk5 + 3; omega⟩
              · exact ⟨_, _, rfl, .inr (.inr (by decide +kernel)), by show 0 < tk5 + 1 + 1; omega, by show tk5 + 1 + 1 < tk5 + 3; omega⟩
            obtain ⟨ee, u, rfl, hE, hu0, hu1⟩ := hv'
            k_steps
            unfold Stop
            rename_i h7 F7 N7
            refine ⟨rfl, _, _, ee, u, rfl, F7, fun p hp => N7 p (List.Mem.tail _ hp), hE, hu0, ?_⟩
            exact Nat.lt_of_lt_of_le hu1 (by dsimp only; omega)
          case rest2 =>
            rintro s' htk6 ⟨h6, tk6, ee, u, rfl, F6, N6, hE, hu0, hu1⟩
            dsimp only at htk6
            clear F5 N5
            have heel : ee.length ≤ 2 ∧ ee.length ≠ 0 := by
              rw [← ch_len]
              rcases hE with h | h | h <;> rw [h] <;> simp
            have h20 := @fm (ns.sum + 9 * i) 20 (by decide)
            refine execs_cut (n := tk6) (fun s' => ∃ (h' : Heap) (tk' : Nat) (z : Str) (tz : Tok), s' = { s1 with heap := h', toks := tk' } ∧
              Fr s1.heap s1.heap.objs.size h' (fun y => if y = Str.ofString "letter" then some (.str z tz) else if y = Str.ofString "ends" then some (.str ee u) else if y = Str.ofString "row" then some (.ref lr) else if y = Str.ofString "closed" then some (.bool cl) else if y = Str.ofString "mark" then some (.str mk tm) else if y = Str.ofString "k" then some (.int i t) else if y = Str.ofString "total" then some (.int ns.sum tt) else if y = Str.ofString "items" then some (.ref D9) else m2 y) ∧
              News s1.heap s1.heap.objs.size h' newsr ∧ ch z = encF (4 + (ns.sum + 9 * i).fmod 20 - 1).toNat (ch ee) (textOf its)) (Nat.le_refl _) ?letter ?rest3
            case letter =>
              have hit := hIr.at N6 hlr
              obtain ⟨q20, hok, T', c, hT, hc⟩ := id hrow
              k_steps
              unfold Stop
              refine (text_cl lr its).use (by with_reducible assumption) F6 (by with_reducible assumption) N6 (by with_reducible assumption) rfl ⟨by omega, hok, hit⟩ (by decide) (by decide) ?_
              rintro v7 nw7 h7 tk7 ⟨rfl, zt, tzt, rfl, hzt⟩ F7 N7 _ _
              rw [List.nil_append] at N7
              have hztl : zt.length ≠ 0 ∧ zt.length ≤ 60 := by
                have h1 := textOf_len its
                rw [← hzt, ch_len] at h1
                refine ⟨?_, by omega⟩
                rw [← ch_len, hzt, hT]; simp
              clear F6 N6
              dsimp only
              k_steps
              unfold Stop
              refine (encode_cl zt ee _ _ _ _).use (by with_reducible assumption) F7 (by with_reducible assumption) N7 (by with_reducible assumption) rfl ⟨hztl.1, by omega, by omega, by omega, by omega, by rw [hzt]; exact textOf_lt its⟩ (by decide) (by decide) ?_
              rintro v8 nw8 h8 tk8 ⟨rfl, z, tz, rfl, hz⟩ F8 N8 _ _
              rw [List.nil_append] at N8
              clear F7 N7
              dsimp only
              k_steps
              unfold Stop
              rename_i h9 F9 N9
              exact ⟨rfl, _, _, z, tz, rfl, F9, N9, by rw [hz, hzt]⟩
            case rest3 =>
              rintro s' htk7 ⟨h7, tk7, z, tz, rfl, F7, N7, hz⟩
              dsimp only at htk7
              clear F6 N6
              refine wpAny_execs_cons ?_
              have mks : MarkS := trivial
              k_steps
              unfold Stop
              rename MarkS => mks2
              clear mks2
              refine tok_then (n := tk7) (by dsimp only; omega) ?_
              k_steps
              unfold Stop TokThen
              intro htk8
              dsimp only at htk8
              rename_i h8 ts k8 F8 N8
              k_steps
              unfold Stop
              refine add_any heel.2 (by have := (pad_slice none (some (i : Int))).2; omega) (fun y2 v tk9 hy2 hd => ?_)
              dsimp only at hd
              obtain ⟨pad, hpd, hpadc, hpad2⟩ : ∃ pad, ch y2 = pad ++ ch ee ∧ (∀ c ∈ pad, c = 32 ∨ c = 9) ∧ pad.length ≤ 2 := ⟨_, hy2, (pad_slice none (some (i : Int))).1, by rw [ch_len]; exact (pad_slice none (some (i : Int))).2⟩
              have hk3 : 3 ≤ (4 + (ns.sum + 9 * i).fmod 20 - 1).toNat := by omega
              have hxl : (encX (textOf its)).length ≤ 300 := by
                have h1 := textOf_len its
                have h2 := flatC_len (textOf its)
                have h3 := hrow.1
                show ((textOf its).flatMap encC).length ≤ 300
                omega
              have hzl : z.length ≤ 1000000 := by
                rw [← ch_len, hz, encF_subs]
                exact letter_size _ _ _ hxl (by rw [ch_len]; omega)
              have hy2l : y2.length ≤ 10 := by
                rw [← ch_len, hpd, List.length_append, ch_len]; omega
              k_steps
              unfold Stop
              refine rep_any (ps := subs (4 + (ns.sum + 9 * i).fmod 20 - 1).toNat (encX (textOf its))) (Nat.ne_of_gt hu0) ?hd (by rw [hz, encF_subs]) (rep_letter hk3 hE hz) hzl hy2l (fun x' tx k10 hx' => ?_)
              case hd =>
                rcases hd with hd | ⟨hd1, hd2⟩
                · exact .inl hd
                · refine .inr ⟨?_, ?_, hd2⟩
                  · intro q; rw [hd1] at q; exact absurd (Nat.lt_of_lt_of_le hu1 (Nat.le_trans htk7 htk8)) (by rw [show k8 = 0 from q]; exact Nat.not_lt_zero _)
                  · intro q; rw [hd1] at q; exact absurd (Nat.lt_of_lt_of_le hu1 (Nat.le_trans htk7 htk8)) (by rw [q]; exact Nat.lt_irrefl _)
              obtain ⟨p1, p2, p3, p4⟩ := law_plain (x := x') (mark := ch mk) hrow hk3 hE hpadc (by rw [hx', hpd]) (by rw [ch_len]; exact hmk3) hpad2
              k_steps
              unfold Stop
              refine (decode_cl x' mk _ _).use (by with_reducible assumption) F8 (by with_reducible assumption) N8 (by with_reducible assumption) rfl ⟨p1, by omega, p2⟩ (by decide) (by decide) ?_
              rintro v11 nw11 h11 tk11 ⟨rfl, z11, t11, rfl, hz11⟩ F11 N11 _ _
              rw [List.nil_append] at N11
              clear F8 N8
              dsimp only
              k_steps
              unfold Stop
              refine (read_cl z11 _).use (by with_reducible assumption) F11 (by with_reducible assumption) N11 (by with_reducible assumption) (by with_reducible assumption) (by with_reducible assumption) rfl (by rw [← ch_len, hz11]; exact p3) (by decide) (by decide) ?_
              rintro v12 nw12 h12 tk12 ⟨l12, n12, vs12, rfl, rfl, hI12⟩ F12 N12 hn12
              clear F11 N11
              rw [hz11, p4] at hI12
              dsimp only
              k_steps
              unfold Stop
              have hit := (hIr.mono (fun p hp => List.mem_append.mpr (.inr hp))).at N12 (List.mem_append.mpr (.inr hlr))
              refine (due_cl lr its mk _).use (by with_reducible assumption) F12 (by with_reducible assumption) N12 (by with_reducible assumption) rfl ⟨by have := hrow.1; omega, by omega, hrow.2.1, hit⟩ (by decide) (by decide) ?_
              rintro v13 nw13 h13 tk13 ⟨l13, n13, vs13, rfl, rfl, hI13⟩ F13 N13 hn13 _
              clear F12 N12
              dsimp only
              k_steps
              unfold Stop
              exact ⟨_, _, _, rfl, F13, fun p hp => N13 p (List.mem_append.mpr (.inr (List.mem_append.mpr (.inr (hsub p hp))))), ⟨⟨tt, rfl⟩, rfl⟩⟩
end
end Mine
theorem PySem.Challenge.cw_ny0161_01_holds : PySem.Challenge.rw_ny0161_01.Holds :=
  Mine.law1
