import PyProof.Rows.All
import Wide.All
import OpenK.AllK
import Wide.FinOn
import PySem.Challenge.RW_ja0024_01
open PySem PySem.Spec PySem.Calls PySem.W PyProof.Rows
set_option Elab.async false
set_option maxRecDepth 100000
namespace Mine
local macro_rules | `(tactic| walk_at $s:str) => `(tactic| k_extra $s)
-- part HO
section
set_option maxHeartbeats 0
noncomputable def nthS : List Stmt → Nat → Stmt
  | [], _ => .Pass ⟨0, 0, 0, 0⟩
  | s :: _, 0 => s
  | _ :: r, k + 1 => nthS r k
noncomputable def stO (k : Nat) : Stmt := nthS PySem.Challenge.pw_ja0024_01.main.body k
noncomputable def fileS : Str := Str.ofString "/claim/cut.py"
noncomputable def modV0 : Value := .str (Str.ofString "convertdate.utils") 187
noncomputable def modV1 : Value := .str (Str.ofString "convertdate.gregorian") 332
noncomputable def modV2 : Value := .str (Str.ofString "convertdate.julian") 391
noncomputable def modV3 : Value := .str (Str.ofString "convertdate.armenian") 448
noncomputable def modV4 : Value := .str (Str.ofString "convertdate.coptic") 512
noncomputable def modV5 : Value := .str (Str.ofString "convertdate.hebrew") 553
noncomputable def modV6 : Value := .str (Str.ofString "convertdate.indian_civil") 660
noncomputable def modV7 : Value := .str (Str.ofString "convertdate.islamic") 706
noncomputable def modV8 : Value := .str (Str.ofString "law_ja0024_01") 755
noncomputable def tplH (vs : List Value) : Obj := { cls := .type "tuple", data := .seq vs.toArray }
noncomputable def locV : List (Str × NameKind) → Nat → List Value
  | [], _ => []
  | (n, k) :: r, t => match k with
    | .local => .str n t :: locV r (t + 1)
    | _ => locV r t
noncomputable def fnO (s : Stmt) (c : Addr) (pm df : Value) : Obj := match s with
  | .FunctionDef n a b _ _ _ sc _ _ _ => { cls := .type "function", data := .func { name := n, qualname := n, params := a, body := .stmts b, scope := sc, globals := 3, closure := [], defaults := df, kwdefaults := .none, pyModule := pm, code := .ref c } }
  | _ => default
noncomputable def rawO (s : Stmt) : Obj := match s with
  | .FunctionDef n a b _ _ _ sc _ _ _ => { cls := .none, data := .func { name := n, qualname := n, params := a, body := .stmts b, scope := sc, globals := 0, closure := [], defaults := .none, kwdefaults := .none } }
  | _ => default
noncomputable def codeV (n : Str) (line argc : Int) (vt ft : Value) (b r t e : Nat) : Obj := { cls := .type "code", data := .fields #[.str n t, .str n (t + 1), .str fileS (t + 2), .int line 0, .int argc 0, .int 0 0, .int 0 0, .int 3 0, .ref b, .bool true, .int 181 0, .ref (b + 1), .none, vt, ft, .ref r, .int e 0, .int line 0, .str fileS (e + 1)] }
noncomputable def codeO (s : Stmt) (b t : Nat) : Obj := match s with
  | .FunctionDef n a _ _ _ _ sc _ _ p => codeV n p.line a.args.length (.ref (b + 2)) (.ref (b + 3)) b (b + 4) t (t + 3 + (locV sc.names 0).length)
  | _ => default
noncomputable def ccodeO (s : Stmt) (b t : Nat) : Obj := match s with
  | .FunctionDef n a _ _ _ _ _ _ _ p => codeV n p.line a.args.length .none .none b (b + 2) t (t + 3)
  | _ => default
noncomputable def namesO : Stmt → List (Str × NameKind)
  | .FunctionDef _ _ _ _ _ _ sc _ _ _ => sc.names
  | _ => []
noncomputable def lineO : Stmt → Nat
  | .FunctionDef _ _ _ _ _ _ _ _ _ p => p.line
  | _ => 0
noncomputable def fldO : Obj := { cls := .none, data := .fields #[] }
noncomputable def defO (s : Stmt) (b t : Nat) (pm df : Value) : List Obj := [tplH [], fldO, tplH (locV (namesO s) (t + 3)), tplH [], rawO s, codeO s b t, fnO s (b + 5) pm df]
noncomputable def cdefO (s : Stmt) (b t : Nat) (pm df : Value) : List Obj := [tplH [], fldO, rawO s, ccodeO s b t, fnO s (b + 3) pm df]
noncomputable def enO (P : Params) (n : String) (t : Nat) (v : Value) : DictEntry := ⟨PyData.keyHash P (Str.ofString n), .str (Str.ofString n) t, v⟩
noncomputable def nsO (P : Params) : Obj := { cls := .type "dict", data := .dict #[enO P "__name__" 165 (.str (Str.ofString "law_ja0024_01") 755), enO P "__doc__" 166 .none, enO P "__package__" 167 .none, enO P "__loader__" 168 (.builtin "__main__.__loader__#opaque"), enO P "__spec__" 169 .none, enO P "__annotations__" 170 (.ref 6), enO P "__builtins__" 171 (.ref 4), enO P "__file__" 173 (.str fileS 172), enO P "__cached__" 174 .none, enO P "MONTH_DAYS" 202 (.ref 15), enO P "isleap" 209 (.ref 22), enO P "monthrange" 220 (.ref 29), enO P "trunc" 229 (.ref 36), enO P "midnight" 236 (.ref 43), enO P "jwday" 243 (.ref 50), enO P "weekday_before" 251 (.ref 57), enO P "search_weekday" 261 (.ref 64), enO P "nearest_weekday" 269 (.ref 71), enO P "next_weekday" 277 (.ref 78), enO P "next_or_current_weekday" 285 (.ref 85), enO P "previous_weekday" 293 (.ref 92), enO P "previous_or_current_weekday" 301 (.ref 99), enO P "n_weeks" 311 (.ref 106), enO P "monthcalendarhelper" 317 (.ref 111), enO P "nth_day_of_month" 331 (.ref 118), enO P "EPOCH_gregorian" 335 (.int 1721426 334), enO P "INTERCALATION_CYCLE_YEARS" 337 (.int 400 336), enO P "LEAP_SUPPRESSION_YEARS" 339 (.int 100 338), enO P "LEAP_CYCLE_YEARS" 341 (.int 4 340), enO P "YEAR_DAYS" 343 (.int 365 342), enO P "HAVE_30_DAYS_gregorian" 348 (.ref 119), enO P "legal_date" 358 (.ref 169), enO P "legal_date_gregorian" 359 (.ref 126), enO P "to_jd" 369 (.ref 350), enO P "to_jd_gregorian" 370 (.ref 133), enO P "month_length" 378 (.ref 357), enO P "month_length_gregorian" 379 (.ref 140), enO P "monthcalendar" 389 (.ref 364), enO P "monthcalendar_gregorian" 390 (.ref 147), enO P "HAVE_30_DAYS_julian" 397 (.ref 148), enO P "leap" 404 (.ref 343), enO P "leap_julian" 405 (.ref 155), enO P "month_length_julian" 415 (.ref 162), enO P "legal_date_julian" 426 (.ref 169), enO P "to_jd_julian" 436 (.ref 176), enO P "monthcalendar_julian" 447 (.ref 183), enO P "EPOCH_armenian" 451 (.int 1922502 450), enO P "EPOCH_SARKAWAG" 453 (.int 2117211 452), enO P "_valid_date" 467 (.ref 191), enO P "leap_armenian" 475 (.ref 198), enO P "to_jd_armenian" 489 (.ref 206), enO P "month_length_armenian" 499 (.ref 214), enO P "monthcalendar_armenian" 511 (.ref 222), enO P "EPOCH_coptic" 515 (.int 1825030 514), enO P "is_leap" 522 (.ref 229), enO P "to_jd_coptic" 532 (.ref 236), enO P "month_length_coptic" 541 (.ref 243), enO P "monthcalendar_coptic" 552 (.ref 250), enO P "EPOCH_hebrew" 556 (.int 347996 555), enO P "NISAN" 558 (.int 1 557), enO P "IYYAR" 560 (.int 2 559), enO P "TAMMUZ" 562 (.int 4 561), enO P "ELUL" 564 (.int 6 563), enO P "TISHRI" 566 (.int 7 565), enO P "HESHVAN" 568 (.int 8 567), enO P "KISLEV" 570 (.int 9 569), enO P "TEVETH" 572 (.int 10 571), enO P "ADAR" 574 (.int 12 573), enO P "VEADAR" 576 (.int 13 575), enO P "leap_hebrew" 584 (.ref 257), enO P "year_months" 591 (.ref 264), enO P "delay_1" 601 (.ref 271), enO P "delay_2" 611 (.ref 278), enO P "year_days" 618 (.ref 285), enO P "month_length_hebrew" 627 (.ref 292), enO P "month_days" 635 (.ref 299), enO P "to_jd_hebrew" 648 (.ref 306), enO P "monthcalendar_hebrew" 659 (.ref 313), enO P "HAVE_31_DAYS" 667 (.ref 314), enO P "SAKA_EPOCH" 669 (.int 78 668), enO P "to_jd_indian_civil" 685 (.ref 321), enO P "month_length_indian_civil" 694 (.ref 328), enO P "monthcalendar_indian_civil" 705 (.ref 335), enO P "EPOCH_islamic" 709 (.int 1948440 708), enO P "HAS_30_DAYS" 716 (.ref 336), enO P "leap_islamic" 724 (.ref 343), enO P "to_jd_islamic" 734 (.ref 350), enO P "month_length_islamic" 743 (.ref 357), enO P "monthcalendar_islamic" 754 (.ref 364), enO P "_law_cell" 764 (.ref 371), enO P "_law_rows" 776 (.ref 378), enO P "_law_sizes" 783 (.ref 385), enO P "_law_long" 790 (.ref 392), enO P "_law_january" 799 (.ref 399), enO P "_law_months_right" 811 (.ref 406), enO P "_law_hebrew_right" 821 (.ref 413), enO P "_law_searches_right" 827 (.ref 418), enO P "_law_nth" 837 (.ref 425), enO P "_law_nth_right" 843 (.ref 430), enO P "law" 857 (.ref 437)] 100 }
noncomputable def nsM (P : Params) : Obj := { cls := .type "dict", data := .dict #[enO P "__name__" 165 (.str (Str.ofString "convertdate.coptic") 512), enO P "__doc__" 166 .none, enO P "__package__" 167 .none, enO P "__loader__" 168 (.builtin "__main__.__loader__#opaque"), enO P "__spec__" 169 .none, enO P "__annotations__" 170 (.ref 6), enO P "__builtins__" 171 (.ref 4), enO P "__file__" 173 (.str fileS 172), enO P "__cached__" 174 .none, enO P "MONTH_DAYS" 202 (.ref 15), enO P "isleap" 209 (.ref 22), enO P "monthrange" 220 (.ref 29), enO P "trunc" 229 (.ref 36), enO P "midnight" 236 (.ref 43), enO P "jwday" 243 (.ref 50), enO P "weekday_before" 251 (.ref 57), enO P "search_weekday" 261 (.ref 64), enO P "nearest_weekday" 269 (.ref 71), enO P "next_weekday" 277 (.ref 78), enO P "next_or_current_weekday" 285 (.ref 85), enO P "previous_weekday" 293 (.ref 92), enO P "previous_or_current_weekday" 301 (.ref 99), enO P "n_weeks" 311 (.ref 106), enO P "monthcalendarhelper" 317 (.ref 111), enO P "nth_day_of_month" 331 (.ref 118), enO P "EPOCH_gregorian" 335 (.int 1721426 334), enO P "INTERCALATION_CYCLE_YEARS" 337 (.int 400 336), enO P "LEAP_SUPPRESSION_YEARS" 339 (.int 100 338), enO P "LEAP_CYCLE_YEARS" 341 (.int 4 340), enO P "YEAR_DAYS" 343 (.int 365 342), enO P "HAVE_30_DAYS_gregorian" 348 (.ref 119), enO P "legal_date" 358 (.ref 169), enO P "legal_date_gregorian" 359 (.ref 126), enO P "to_jd" 369 (.ref 236), enO P "to_jd_gregorian" 370 (.ref 133), enO P "month_length" 378 (.ref 214), enO P "month_length_gregorian" 379 (.ref 140), enO P "monthcalendar" 389 (.ref 222), enO P "monthcalendar_gregorian" 390 (.ref 147), enO P "HAVE_30_DAYS_julian" 397 (.ref 148), enO P "leap" 404 (.ref 198), enO P "leap_julian" 405 (.ref 155), enO P "month_length_julian" 415 (.ref 162), enO P "legal_date_julian" 426 (.ref 169), enO P "to_jd_julian" 436 (.ref 176), enO P "monthcalendar_julian" 447 (.ref 183), enO P "EPOCH_armenian" 451 (.int 1922502 450), enO P "EPOCH_SARKAWAG" 453 (.int 2117211 452), enO P "_valid_date" 467 (.ref 191), enO P "leap_armenian" 475 (.ref 198), enO P "to_jd_armenian" 489 (.ref 206), enO P "month_length_armenian" 499 (.ref 214), enO P "monthcalendar_armenian" 511 (.ref 222), enO P "EPOCH_coptic" 515 (.int 1825030 514), enO P "is_leap" 522 (.ref 229)] 55 }
noncomputable def notesL : List (Nat × Addr) := [(3, 21), (5, 28), (15, 35), (18, 42), (20, 49), (22, 56), (24, 63), (26, 70), (28, 77), (30, 84), (32, 91), (34, 98), (36, 105), (43, 110), (47, 117), (70, 125), (79, 132), (89, 139), (92, 146), (99, 154), (102, 161), (109, 168), (115, 175), (122, 182), (130, 190), (154, 197), (159, 205), (168, 213), (175, 221), (182, 228), (184, 235), (187, 242), (196, 249), (213, 256), (216, 263), (220, 270), (227, 277), (236, 284), (238, 291), (251, 298), (253, 305), (266, 312), (274, 320), (295, 327), (300, 334), (308, 342), (311, 349), (314, 356), (319, 363), (325, 370), (327, 377), (340, 384), (342, 391), (344, 398), (347, 405), (376, 412), (382, 417), (393, 424), (398, 429), (408, 436)]
noncomputable def notesV : List (Nat × Addr) → List Value
  | [] => []
  | (l, c) :: r => .int l 0 :: .int 0 0 :: .ref c :: notesV r
noncomputable def notesO : Obj := { cls := .none, data := .fields (notesV notesL).toArray }
noncomputable def notesM : Obj := { cls := .none, data := .fields (notesV (notesL.take 31)).toArray }
noncomputable def topCode : Obj := { cls := .type "code", data := .fields #[.str (Str.ofString "<module>") 182, .str (Str.ofString "<module>") 183, .str fileS 184, .int 1 0, .int 0 0, .int 0 0, .int 0 0, .int 0 0, .ref 11, .bool false, .int 181 0, .ref 12, .none, .none, .none, .none, .int 185 0, .int 1 0, .str fileS 186] }
noncomputable def topFrameO : Obj := { cls := .type "frame", data := .plain, slots := #[some (.ref 13), some (.ref 3), some (.ref 3), none, some (.str (Str.ofString "__main__") 164), none, some (.ref 0)] }
noncomputable def bootL (P : Params) (o3 o12 : Obj) (r : List Obj) : List Obj := boot_o_0 P :: boot_o_1 P :: boot_o_2 P :: o3 :: boot_o_4 P :: boot_o_5 P :: boot_o_6 P :: boot_o_7 P :: boot_o_8 P :: boot_o_9 P :: boot_o_10 P :: tplH [] :: o12 :: topCode :: topFrameO :: r
noncomputable def restL : List Obj := ([[tplH [.int 0 189, .int 31 190, .int 28 191, .int 31 192, .int 30 193, .int 31 194, .int 30 195, .int 31 196, .int 31 197, .int 30 198, .int 31 199, .int 30 200, .int 31 201]], defO (stO 2) 16 203 modV0 .none, defO (stO 3) 23 210 modV0 .none, defO (stO 4) 30 221 modV0 .none, defO (stO 5) 37 230 modV0 .none, defO (stO 6) 44 237 modV0 .none, defO (stO 7) 51 244 modV0 .none, defO (stO 8) 58 252 modV0 .none, defO (stO 9) 65 262 modV0 .none, defO (stO 10) 72 270 modV0 .none, defO (stO 11) 79 278 modV0 .none, defO (stO 12) 86 286 modV0 .none, defO (stO 13) 93 294 modV0 .none, defO (stO 14) 100 302 modV0 .none, cdefO (stO 15) 107 312 modV0 .none, defO (stO 16) 112 318 modV0 .none, [tplH [.int 4 344, .int 6 345, .int 9 346, .int 11 347]], defO (stO 24) 120 349 modV1 .none, defO (stO 26) 127 360 modV1 .none, defO (stO 28) 134 371 modV1 .none, defO (stO 30) 141 380 modV1 .none, [tplH [.int 4 393, .int 6 394, .int 9 395, .int 11 396]], defO (stO 34) 149 398 modV2 .none, defO (stO 36) 156 406 modV2 .none, defO (stO 38) 163 416 modV2 .none, defO (stO 40) 170 427 modV2 .none, defO (stO 42) 177 437 modV2 .none, [tplH [.none]], defO (stO 47) 185 454 modV3 (.ref 184), defO (stO 48) 192 468 modV3 .none, [tplH [.none]], defO (stO 50) 200 476 modV3 (.ref 199), [tplH [.none]], defO (stO 52) 208 490 modV3 (.ref 207), [tplH [.none]], defO (stO 54) 216 500 modV3 (.ref 215), defO (stO 58) 223 516 modV4 .none, defO (stO 59) 230 523 modV4 .none, defO (stO 61) 237 533 modV4 .none, defO (stO 63) 244 542 modV4 .none, defO (stO 77) 251 577 modV5 .none, defO (stO 79) 258 585 modV5 .none, defO (stO 80) 265 592 modV5 .none, defO (stO 81) 272 602 modV5 .none, defO (stO 82) 279 612 modV5 .none, defO (stO 83) 286 619 modV5 .none, defO (stO 85) 293 628 modV5 .none, defO (stO 86) 300 636 modV5 .none, defO (stO 88) 307 649 modV5 .none, [tplH [.int 2 662, .int 3 663, .int 4 664, .int 5 665, .int 6 666]], defO (stO 93) 315 670 modV6 .none, defO (stO 95) 322 686 modV6 .none, defO (stO 97) 329 695 modV6 .none, [tplH [.int 1 710, .int 3 711, .int 5 712, .int 7 713, .int 9 714, .int 11 715]], defO (stO 102) 337 717 modV7 .none, defO (stO 104) 344 725 modV7 .none, defO (stO 106) 351 735 modV7 .none, defO (stO 108) 358 744 modV7 .none, defO (stO 111) 365 757 modV8 .none, defO (stO 112) 372 765 modV8 .none, defO (stO 113) 379 777 modV8 .none, defO (stO 114) 386 784 modV8 .none, defO (stO 115) 393 791 modV8 .none, defO (stO 116) 400 800 modV8 .none, defO (stO 117) 407 812 modV8 .none, cdefO (stO 118) 414 822 modV8 .none, defO (stO 119) 419 828 modV8 .none, cdefO (stO 120) 426 838 modV8 .none, defO (stO 121) 431 844 modV8 .none]).flatten
noncomputable def nthO : List Obj → Nat → Obj
  | [], _ => default
  | o :: _, 0 => o
  | _ :: r, k + 1 => nthO r k
noncomputable def treeO (l : List Obj) (n : Nat) : Nat → Nat → Nat → BT
  | 0, _, _ => .nil
  | f + 1, a, b => match Nat.blt b n with
    | true => .node (nthO l b) (treeO l n f (2 * a) (a + b)) (treeO l n f (2 * a) (2 * a + b))
    | false => .nil
noncomputable def life0 : Life := {}
section
noncomputable def preH (P : Params) : Heap := ⟨(bootL P (boot_o_3 P) fldO []).toArray, {}⟩
noncomputable def tree0 (P : Params) : BT := treeO (bootL P (boot_o_3 P) fldO []) 15 6 1 0
noncomputable def tree1 (P : Params) : BT := treeO (bootL P (nsO P) notesO restL) 438 10 1 0
noncomputable def treeM (P : Params) : BT := treeO (bootL P (nsM P) notesM restL) 237 10 1 0
noncomputable def finH (P : Params) : Heap := absHeap (tree1 P) 438 {}
noncomputable def KO : Params → Frag := fun P => (nat_lit 3, nsO P) :: (nat_lit 15, tplH [.int 0 189, .int 31 190, .int 28 191, .int 31 192, .int 30 193, .int 31 194, .int 30 195, .int 31 196, .int 31 197, .int 30 198, .int 31 199, .int 30 200, .int 31 201]) :: (nat_lit 21, codeO (stO 2) 16 203) :: (nat_lit 22, fnO (stO 2) 21 modV0 .none) :: (nat_lit 28, codeO (stO 3) 23 210) :: (nat_lit 29, fnO (stO 3) 28 modV0 .none) :: (nat_lit 35, codeO (stO 4) 30 221) :: (nat_lit 36, fnO (stO 4) 35 modV0 .none) :: (nat_lit 42, codeO (stO 5) 37 230) :: (nat_lit 43, fnO (stO 5) 42 modV0 .none) :: (nat_lit 49, codeO (stO 6) 44 237) :: (nat_lit 50, fnO (stO 6) 49 modV0 .none) :: (nat_lit 56, codeO (stO 7) 51 244) :: (nat_lit 57, fnO (stO 7) 56 modV0 .none) :: (nat_lit 63, codeO (stO 8) 58 252) :: (nat_lit 64, fnO (stO 8) 63 modV0 .none) :: (nat_lit 70, codeO (stO 9) 65 262) :: (nat_lit 71, fnO (stO 9) 70 modV0 .none) :: (nat_lit 77, codeO (stO 10) 72 270) :: (nat_lit 78, fnO (stO 10) 77 modV0 .none) :: (nat_lit 84, codeO (stO 11) 79 278) :: (nat_lit 85, fnO (stO 11) 84 modV0 .none) :: (nat_lit 91, codeO (stO 12) 86 286) :: (nat_lit 92, fnO (stO 12) 91 modV0 .none) :: (nat_lit 98, codeO (stO 13) 93 294) :: (nat_lit 99, fnO (stO 13) 98 modV0 .none) :: (nat_lit 105, codeO (stO 14) 100 302) :: (nat_lit 106, fnO (stO 14) 105 modV0 .none) :: (nat_lit 110, ccodeO (stO 15) 107 312) :: (nat_lit 111, fnO (stO 15) 110 modV0 .none) :: (nat_lit 117, codeO (stO 16) 112 318) :: (nat_lit 118, fnO (stO 16) 117 modV0 .none) :: (nat_lit 119, tplH [.int 4 344, .int 6 345, .int 9 346, .int 11 347]) :: (nat_lit 125, codeO (stO 24) 120 349) :: (nat_lit 126, fnO (stO 24) 125 modV1 .none) :: (nat_lit 132, codeO (stO 26) 127 360) :: (nat_lit 133, fnO (stO 26) 132 modV1 .none) :: (nat_lit 139, codeO (stO 28) 134 371) :: (nat_lit 140, fnO (stO 28) 139 modV1 .none) :: (nat_lit 146, codeO (stO 30) 141 380) :: (nat_lit 147, fnO (stO 30) 146 modV1 .none) :: (nat_lit 148, tplH [.int 4 393, .int 6 394, .int 9 395, .int 11 396]) :: (nat_lit 154, codeO (stO 34) 149 398) :: (nat_lit 155, fnO (stO 34) 154 modV2 .none) :: (nat_lit 161, codeO (stO 36) 156 406) :: (nat_lit 162, fnO (stO 36) 161 modV2 .none) :: (nat_lit 168, codeO (stO 38) 163 416) :: (nat_lit 169, fnO (stO 38) 168 modV2 .none) :: (nat_lit 175, codeO (stO 40) 170 427) :: (nat_lit 176, fnO (stO 40) 175 modV2 .none) :: (nat_lit 182, codeO (stO 42) 177 437) :: (nat_lit 183, fnO (stO 42) 182 modV2 .none) :: (nat_lit 184, tplH [.none]) :: (nat_lit 190, codeO (stO 47) 185 454) :: (nat_lit 191, fnO (stO 47) 190 modV3 (.ref 184)) :: (nat_lit 197, codeO (stO 48) 192 468) :: (nat_lit 198, fnO (stO 48) 197 modV3 .none) :: (nat_lit 199, tplH [.none]) :: (nat_lit 205, codeO (stO 50) 200 476) :: (nat_lit 206, fnO (stO 50) 205 modV3 (.ref 199)) :: (nat_lit 207, tplH [.none]) :: (nat_lit 213, codeO (stO 52) 208 490) :: (nat_lit 214, fnO (stO 52) 213 modV3 (.ref 207)) :: (nat_lit 215, tplH [.none]) :: (nat_lit 221, codeO (stO 54) 216 500) :: (nat_lit 222, fnO (stO 54) 221 modV3 (.ref 215)) :: (nat_lit 228, codeO (stO 58) 223 516) :: (nat_lit 229, fnO (stO 58) 228 modV4 .none) :: (nat_lit 235, codeO (stO 59) 230 523) :: (nat_lit 236, fnO (stO 59) 235 modV4 .none) :: (nat_lit 242, codeO (stO 61) 237 533) :: (nat_lit 243, fnO (stO 61) 242 modV4 .none) :: (nat_lit 249, codeO (stO 63) 244 542) :: (nat_lit 250, fnO (stO 63) 249 modV4 .none) :: (nat_lit 256, codeO (stO 77) 251 577) :: (nat_lit 257, fnO (stO 77) 256 modV5 .none) :: (nat_lit 263, codeO (stO 79) 258 585) :: (nat_lit 264, fnO (stO 79) 263 modV5 .none) :: (nat_lit 270, codeO (stO 80) 265 592) :: (nat_lit 271, fnO (stO 80) 270 modV5 .none) :: (nat_lit 277, codeO (stO 81) 272 602) :: (nat_lit 278, fnO (stO 81) 277 modV5 .none) :: (nat_lit 284, codeO (stO 82) 279 612) :: (nat_lit 285, fnO (stO 82) 284 modV5 .none) :: (nat_lit 291, codeO (stO 83) 286 619) :: (nat_lit 292, fnO (stO 83) 291 modV5 .none) :: (nat_lit 298, codeO (stO 85) 293 628) :: (nat_lit 299, fnO (stO 85) 298 modV5 .none) :: (nat_lit 305, codeO (stO 86) 300 636) :: (nat_lit 306, fnO (stO 86) 305 modV5 .none) :: (nat_lit 312, codeO (stO 88) 307 649) :: (nat_lit 313, fnO (stO 88) 312 modV5 .none) :: (nat_lit 314, tplH [.int 2 662, .int 3 663, .int 4 664, .int 5 665, .int 6 666]) :: (nat_lit 320, codeO (stO 93) 315 670) :: (nat_lit 321, fnO (stO 93) 320 modV6 .none) :: (nat_lit 327, codeO (stO 95) 322 686) :: (nat_lit 328, fnO (stO 95) 327 modV6 .none) :: (nat_lit 334, codeO (stO 97) 329 695) :: (nat_lit 335, fnO (stO 97) 334 modV6 .none) :: (nat_lit 336, tplH [.int 1 710, .int 3 711, .int 5 712, .int 7 713, .int 9 714, .int 11 715]) :: (nat_lit 342, codeO (stO 102) 337 717) :: (nat_lit 343, fnO (stO 102) 342 modV7 .none) :: (nat_lit 349, codeO (stO 104) 344 725) :: (nat_lit 350, fnO (stO 104) 349 modV7 .none) :: (nat_lit 356, codeO (stO 106) 351 735) :: (nat_lit 357, fnO (stO 106) 356 modV7 .none) :: (nat_lit 363, codeO (stO 108) 358 744) :: (nat_lit 364, fnO (stO 108) 363 modV7 .none) :: (nat_lit 370, codeO (stO 111) 365 757) :: (nat_lit 371, fnO (stO 111) 370 modV8 .none) :: (nat_lit 377, codeO (stO 112) 372 765) :: (nat_lit 378, fnO (stO 112) 377 modV8 .none) :: (nat_lit 384, codeO (stO 113) 379 777) :: (nat_lit 385, fnO (stO 113) 384 modV8 .none) :: (nat_lit 391, codeO (stO 114) 386 784) :: (nat_lit 392, fnO (stO 114) 391 modV8 .none) :: (nat_lit 398, codeO (stO 115) 393 791) :: (nat_lit 399, fnO (stO 115) 398 modV8 .none) :: (nat_lit 405, codeO (stO 116) 400 800) :: (nat_lit 406, fnO (stO 116) 405 modV8 .none) :: (nat_lit 412, codeO (stO 117) 407 812) :: (nat_lit 413, fnO (stO 117) 412 modV8 .none) :: (nat_lit 417, ccodeO (stO 118) 414 822) :: (nat_lit 418, fnO (stO 118) 417 modV8 .none) :: (nat_lit 424, codeO (stO 119) 419 828) :: (nat_lit 425, fnO (stO 119) 424 modV8 .none) :: (nat_lit 429, ccodeO (stO 120) 426 838) :: (nat_lit 430, fnO (stO 120) 429 modV8 .none) :: (nat_lit 436, codeO (stO 121) 431 844) :: (nat_lit 437, fnO (stO 121) 436 modV8 .none) :: []
open PySem.W.Fast in
abbrev pw : Program := PySem.Challenge.pw_ja0024_01
noncomputable def env0 : Env := { scope := PySem.Challenge.pw_ja0024_01.main.scope, locals := mainNs, globals := mainNs, cells := [], code := .ref 13, frame := some 14 }
noncomputable abbrev body0 : List Stmt := behindTheImports PySem.Challenge.pw_ja0024_01
noncomputable abbrev code0 : Code := .body body0 env0
noncomputable abbrev pos0 : Pos := ⟨0, 0, 0, 0⟩
noncomputable abbrev pos1 : Pos := ⟨408, 0, 422, 45⟩
noncomputable abbrev posM : Pos := ⟨184, 0, 185, 83⟩
theorem run1 (w : World) : (fun os => segRunT treeTable PySem.Challenge.pw_ja0024_01 w 11 (some (.ref 6)) 1 1265 ⟨tree0 w.params, 15, {}, Array.mk [], {}, 187, os⟩ (piecesOf (body0.take 60) env0 code0 pos0 [topFrame pos0])) =
    fun os => some (.next, ⟨treeM w.params, 237, {}, Array.mk [], {}, 532, os⟩, code0, posM) := by
  rw [PySem.W.Fast.te10110043849684766642, PySem.W.Fast.te14364793385576792824]
  kernel_rfl
theorem run2 (w : World) : (fun os => segRunT treeTable PySem.Challenge.pw_ja0024_01 w 11 (some (.ref 6)) 1 1224 ⟨treeM w.params, 237, {}, Array.mk [], {}, 532, os⟩ (piecesOf (body0.drop 60) env0 code0 posM [topFrame pos0])) =
    fun os => some (.next, ⟨tree1 w.params, 438, {}, Array.mk [], {}, 858, os⟩, code0, pos1) := by
  rw [PySem.W.Fast.te10110043849684766642, PySem.W.Fast.te14364793385576792824]
  kernel_rfl
abbrev R0 := PySem.Challenge.rw_ja0024_01
theorem open1 : ∀ w : World, (fencedOpening treeTable pw w 5100).map (fun s => (s.heap, s.gens, s.drawn, s.toks)) = some (boot_heap w.params, Array.mk [], boot_drawn, boot_toks) :=
  boot_open (p := PySem.Challenge.pw_ja0024_01) (by kernel_rfl) (by kernel_rfl) (fun s => by kernel_rfl)
theorem size1 (w : World) : ((boot_heap w.params).isNs mainGlobals && (Array.mk ([] : List GenState)).size == 0, (boot_heap w.params).objs.size, (boot_heap w.params).nsMap mainGlobals "__annotations__") = (true, 11, some (.ref 6)) := by kernel_rfl
theorem pre1 (w : World) : (fun os => topGo treeTable PySem.Challenge.pw_ja0024_01 w 11 (some (.ref 6)) 12 ⟨boot_heap w.params, Array.mk [], boot_drawn, boot_toks, os⟩ (topStub PySem.Challenge.pw_ja0024_01)) =
    fun os => some (⟨preH w.params, Array.mk [], {}, 187, os⟩, ⟨denote treeTable code0, code0, pos0, [topFrame pos0]⟩) := by
  rw [PySem.W.Fast.te15667345088766844465, PySem.W.Fast.te14364793385576792824, PySem.W.Fast.te11892475500146522536]
  kernel_rfl
theorem block1 (w : World) : (fun os => segRun treeTable PySem.Challenge.pw_ja0024_01 w 11 (some (.ref 6)) 1 1 ⟨preH w.params, Array.mk [], {}, 187, os⟩ (blockOf body0 env0 code0 pos0 [topFrame pos0])) =
    fun os => some (.next, (SharedT.mk (tree0 w.params) 15 {} (Array.mk []) {} 187 os).abs, code0, pos0) := by
  kernel_rfl
theorem fin1 (w : World) (os : OsState) : topRun treeTable PySem.Challenge.pw_ja0024_01 w 11 (some (.ref 6)) 2 (SharedT.mk (tree1 w.params) 438 {} (Array.mk []) {} 858 os).abs ⟨doneF .next, code0, pos1, [topFrame pos0]⟩ = some ⟨finH w.params, Array.mk [], {}, 858, os⟩ := by
  kernel_rfl
theorem whole1 (w : World) (os : OsState) : topRun treeTable PySem.Challenge.pw_ja0024_01 w 11 (some (.ref 6)) (12 + (1 + (1265 + (1224 + 2)))) ⟨boot_heap w.params, Array.mk [], boot_drawn, boot_toks, os⟩ (topStub PySem.Challenge.pw_ja0024_01) = some ⟨finH w.params, Array.mk [], {}, 858, os⟩ :=
  go_top (congrFun (pre1 w) os) (piece_block (congrFun (block1 w) os) (by
    have h2 := piece_app (rest := []) (segRun_of (congrFun (run2 w) os)) (piece_nil (fin1 w os))
    rw [List.append_nil] at h2
    have this := piece_app (segRun_of (congrFun (run1 w) os)) h2
    rw [List.take_append_drop] at this
    exact this))
noncomputable def q0 : Program := { PySem.Challenge.pw_ja0024_01 with main := { PySem.Challenge.pw_ja0024_01.main with body := [stO 121] } }
noncomputable def loose0 : List Str := [Str.ofString "MONTH_DAYS", Str.ofString "isleap", Str.ofString "monthrange", Str.ofString "trunc", Str.ofString "midnight", Str.ofString "jwday", Str.ofString "weekday_before", Str.ofString "search_weekday", Str.ofString "nearest_weekday", Str.ofString "next_weekday", Str.ofString "next_or_current_weekday", Str.ofString "previous_weekday", Str.ofString "previous_or_current_weekday", Str.ofString "n_weeks", Str.ofString "monthcalendarhelper", Str.ofString "nth_day_of_month", Str.ofString "EPOCH_gregorian", Str.ofString "INTERCALATION_CYCLE_YEARS", Str.ofString "LEAP_SUPPRESSION_YEARS", Str.ofString "LEAP_CYCLE_YEARS", Str.ofString "YEAR_DAYS", Str.ofString "HAVE_30_DAYS_gregorian", Str.ofString "legal_date", Str.ofString "legal_date_gregorian", Str.ofString "to_jd", Str.ofString "to_jd_gregorian", Str.ofString "month_length", Str.ofString "month_length_gregorian", Str.ofString "monthcalendar", Str.ofString "monthcalendar_gregorian", Str.ofString "HAVE_30_DAYS_julian", Str.ofString "leap", Str.ofString "leap_julian", Str.ofString "month_length_julian", Str.ofString "legal_date_julian", Str.ofString "to_jd_julian", Str.ofString "monthcalendar_julian", Str.ofString "EPOCH_armenian", Str.ofString "EPOCH_SARKAWAG", Str.ofString "_valid_date", Str.ofString "leap_armenian", Str.ofString "to_jd_armenian", Str.ofString "month_length_armenian", Str.ofString "monthcalendar_armenian", Str.ofString "EPOCH_coptic", Str.ofString "is_leap", Str.ofString "to_jd_coptic", Str.ofString "month_length_coptic", Str.ofString "monthcalendar_coptic", Str.ofString "EPOCH_hebrew", Str.ofString "NISAN", Str.ofString "IYYAR", Str.ofString "TAMMUZ", Str.ofString "ELUL", Str.ofString "TISHRI", Str.ofString "HESHVAN", Str.ofString "KISLEV", Str.ofString "TEVETH", Str.ofString "ADAR", Str.ofString "VEADAR", Str.ofString "leap_hebrew", Str.ofString "year_months", Str.ofString "delay_1", Str.ofString "delay_2", Str.ofString "year_days", Str.ofString "month_length_hebrew", Str.ofString "month_days", Str.ofString "to_jd_hebrew", Str.ofString "monthcalendar_hebrew", Str.ofString "HAVE_31_DAYS", Str.ofString "SAKA_EPOCH", Str.ofString "to_jd_indian_civil", Str.ofString "month_length_indian_civil", Str.ofString "monthcalendar_indian_civil", Str.ofString "EPOCH_islamic", Str.ofString "HAS_30_DAYS", Str.ofString "leap_islamic", Str.ofString "to_jd_islamic", Str.ofString "month_length_islamic", Str.ofString "monthcalendar_islamic", Str.ofString "_law_cell", Str.ofString "_law_rows", Str.ofString "_law_sizes", Str.ofString "_law_long", Str.ofString "_law_january", Str.ofString "_law_months_right", Str.ofString "_law_hebrew_right", Str.ofString "_law_searches_right", Str.ofString "_law_nth", Str.ofString "_law_nth_right"]
noncomputable abbrev KOas : List Addr := [3, 15, 21, 22, 28, 29, 35, 36, 42, 43, 49, 50, 56, 57, 63, 64, 70, 71, 77, 78, 84, 85, 91, 92, 98, 99, 105, 106, 110, 111, 117, 118, 119, 125, 126, 132, 133, 139, 140, 146, 147, 148, 154, 155, 161, 162, 168, 169, 175, 176, 182, 183, 184, 190, 191, 197, 198, 199, 205, 206, 207, 213, 214, 215, 221, 222, 228, 229, 235, 236, 242, 243, 249, 250, 256, 257, 263, 264, 270, 271, 277, 278, 284, 285, 291, 292, 298, 299, 305, 306, 312, 313, 314, 320, 321, 327, 328, 334, 335, 336, 342, 343, 349, 350, 356, 357, 363, 364, 370, 371, 377, 378, 384, 385, 391, 392, 398, 399, 405, 406, 412, 413, 417, 418, 424, 425, 429, 430, 436, 437]
noncomputable abbrev fin0 (w : World) (os : OsState) : Shared := ⟨finH w.params, Array.mk [], {}, 858, os⟩
theorem look1 (w : World) : (fun os => staticsOk (importedModules PySem.Challenge.pw_ja0024_01.main.body) (boot_heap w.params) (finH w.params) && namesBound PySem.Challenge.pw_ja0024_01 (finH w.params) && gensDone (fin0 w os) && laidKept (boot_heap w.params) (finH w.params)) = fun _ => true := by
  kernel_rfl
theorem look2 (w : World) : (fun os => openSeen q0 loose0 (importedModules PySem.Challenge.pw_ja0024_01.main.body) (fun s => xlAt q0 [] s && recOk (RowW.records R0.row.toRowW) s) true (fin0 w os)) = fun _ => openGood q0 loose0 := by
  kernel_rfl
theorem kas (P : Params) : KOas = (KO P).map (·.1) := by kernel_rfl
theorem look3 (w : World) : (fun os => (kHook KO KOas kas).obs (fin0 w os)) = fun _ => (kHook KO KOas kas).val w := by
  kernel_rfl
theorem said0 : R0.wellSaid = true := by
  rw [PySem.W.Fast.te9446332074065402090]
  unfold PySem.W.Fast.tw9446332074065402090 PySem.W.Fast.tw17960256430627541270 PySem.W.Fast.tw2436336058641802641 PySem.W.Fast.tw12908688711261696721
  repeat' (with_reducible refine look_both ?_ ?_)
  all_goals (as_aux_lemma => kernel_rfl)
theorem left0 : LeftO R0.row.prog q0 loose0 (fun s => xlAt q0 [] s && recOk (RowW.records R0.row.toRowW) s) (kHook KO KOas kas).obs (kHook KO KOas kas).val 5100 :=
  LeftO.of_pieces (p := PySem.Challenge.pw_ja0024_01) (H₀ := boot_heap) (H₁ := finH) (gs₀ := Array.mk []) (gs₁ := Array.mk []) (d₀ := boot_drawn) (d₁ := {}) (k₀ := boot_toks) (k₁ := 858) (m₀ := 11) (ann := some (.ref 6)) (M := 12 + (1 + (1265 + (1224 + 2)))) open1 size1 whole1 rfl
    fun w => funext fun os => Prod.ext (congrFun (look1 w) os) (Prod.ext (congrFun (look2 w) os) (congrFun (look3 w) os))
theorem hdO {d : DefRec} {kwd : List (Str × Expr)} (hdef : defOf q0 R0.row.toRowW.name = some (d, kwd)) (hp : R0.row.prog.theDef R0.row.toRowW.name = some (d.params, d.body, d.scope)) (hk : kwWritten? d.params.kwonlyargs d.params.kw_defaults = some kwd)
    (walk : WalkO q0 loose0 (XL q0 []) (kHook KO KOas kas).says R0.row.toRowW d kwd fun f vs => PySem.call f vs) : R0.Holds := by
  refine holds_law said0 fun said => ?_
  refine holds_open (q := q0) (loose := loose0) (Xt := fun s => xlAt q0 [] s && recOk (RowW.records R0.row.toRowW) s) (XP := XL q0 []) (Yf := (kHook KO KOas kas).obs) (Ya := (kHook KO KOas kas).val) (YP := (kHook KO KOas kas).says) (N := 5100) left0 (kHook KO KOas kas).of (kHook KO KOas kas).keeps (fun s e => xl_of s (Bool.and_eq_true_iff.mp e).1) XL.keeps hdef hp hk (fun s e => recFacts_of (Bool.and_eq_true_iff.mp e).2) (by rfl) said (by kernel_rfl) ⟨rfl, rfl, rfl, rfl, rfl, by decide +kernel⟩ ?hw walk
  case hw => w_witness2
end
end
-- part B0
noncomputable abbrev Lo : List Str := looseW q0 loose0

/-- entering a def that leaves alone whatever its caller has made: the callee's ground is the whole heap -/
theorem code_p {prog : Program} {w : World} {A A₀ : Around} {s : Shared} {K : Frag} {L : Addr} {h₀ base : Heap} {m mg mb : Str → Option Value} {news : List (Addr × Obj)} {p : Program} {loose : List Str} {mean : ExcName → Option Value}
    {env : Env} {outer : List Env} {R : Result → Shared → Prop} {name qual : Str} {params : Arguments} {body : List Stmt} {scope : Scope} {dV kV doc pm cdv ct oc : Value} {an od : Option Addr} {osl : Array (Option Value)} {f : Addr} {args : Args} {binds : List (Str × Value)}
    (B : Below A₀ base outer h₀) (F : Fr h₀ L s.heap m) (X₀ : K.In h₀) (N : News h₀ L s.heap news) (T : Top p loose mean mg mb h₀) (hA : A.frames = some (env :: outer)) (hf : env.frame = some L) (hke : env.scope.kind = .function)
    (ho : K.lookup f = some ⟨oc, od, .func (fnOf name qual params body scope dV kV doc pm an cdv ct), osl⟩) (hcd : codeIn K cdv qual = true) (hroom : A.depth < recursionLimit)
    (hbind : BindsTo s (fnOf name qual params body scope dV kV doc pm an cdv ct) args binds) (hloc : ∀ y ∈ binds, scope.names.lookup y.1 = some .local)
    (h : ∀ g L' h₁, Fr h₀ L g m → Fr g L' h₁ (fun y => binds.reverse.lookup y) → News g L' h₁ [] → Below A base (env :: outer) g → K.In g → Top p loose mean mg mb g →
      wpAny (model prog w) (A.deeper (envOf qual scope L' f cdv)) (execs body (envOf qual scope L' f cdv))
        (fun fl s' => LeaveK h₀ L m g (fun r s'' => (∀ tl, News h₀ L s''.heap tl → News h₀ L s''.heap (tl ++ news)) → (∀ tl, News g L' s''.heap tl → ∀ q ∈ tl, ∀ p ∈ news, p.1 ≠ q.1) → R r s'') (match fl with | .ret v => v | _ => .none) s')
        (fun e s' => wpAny (model prog w) (A.deeper (envOf qual scope L' f cdv)) (leaving (envOf qual scope L' f cdv) e) (fun _ s'' => R (.error e) s'') (fun e' s'' => R (.error e') s'') s')
        { s with heap := h₁, toks := s.toks + binds.length })
    (hco : scope.isCoroutine = false) (hgen : scope.isGenerator = false) (hk : scope.kind = .function)
    (hcell : ∀ x ∈ scope.names, x.2 ≠ .cell) : codeAny (model prog w) A (.call (.ref f) args) R s := by
  have st : ∀ b o, h₀.get? b = some o → s.heap.get? b = some o := F.keep
  refine codeAny_call_def (fd := fnX name qual params body scope [] dV kV doc pm an cdv ct) (body := body) (binds := binds) hroom ((X₀.keeps F.keep) _ _ ho) rfl (T.nolimit.keeps F.keep) (codeRec_of (X₀.keeps F.keep) hcd) rfl hbind hcell hloc (fun h₁ hns hk₁ => ?_) hco hgen hk
  refine wpAny_mono (h s.heap s.heap.objs.size h₁ F ⟨hns, fun b o e => hk₁ b o e, Nat.le_refl _⟩ News.nil ⟨hA, (pushX B F hf hke).stays, (pushX B F hf hke).frames⟩ (X₀.keeps F.keep) (T.keeps F.keep)) (fun fl s' hl => ?_) fun _ _ y => y
  obtain ⟨L', m', news', F', N', k⟩ := hl
  obtain ⟨oL, es, ep, hL, hLd, hLk, hLf⟩ := F.ns
  have kk : ∀ tl, News h₀ L s'.heap tl → News h₀ L s'.heap (tl ++ news) := by
    intro tl Nt q hq
    rcases List.mem_append.mp hq with hq | hq
    · exact Nt q hq
    · exact ⟨F'.keep _ _ (N q hq).1, (N q hq).2⟩
  have lt : ∀ tl, News s.heap s.heap.objs.size s'.heap tl → ∀ q ∈ tl, ∀ p ∈ news, p.1 ≠ q.1 := by
    intro tl Nt q hq p hp
    have h1 := (Nt q hq).2.2
    intro e
    rw [← e, (N p hp).1] at h1
    cases h1
  refine k ⟨⟨oL, es, ep, F'.keep L oL hL, hLd, hLk, hLf⟩, fun b o e => F'.keep b o (st b o e), F.above⟩ (fun p hp => ⟨(N' p hp).1, fun q => ?_, ?_⟩) kk lt
  · have := (N' p hp).2.2; rw [q, hL] at this; cases this
  · cases q : h₀.get? p.1 with
    | none => rfl
    | some o => have := (N' p hp).2.2; rw [st _ _ q] at this; cases this

/-- what one def of the text does, for every world and above every ledger: it makes the objects tl and gives v, as Post says -/
def Con (k : Nat) (f : Addr) (vs : List Value) (Post : List (Addr × Obj) → Value → Prop) : Prop :=
  ∀ (w : World) (mean : ExcName → Option Value) (mg mb : Str → Option Value) (dp un : Nat) (gd : Option (List Code)) (cn : Str) (cs : Scope) (a : Addr) (ccd : Value) (cl : List (Str × Addr)) (outer : List Env) (A₀ : Around) (base h₀ : Heap) (L : Addr) (m : Str → Option Value) (news : List (Addr × Obj)) (s : Shared) (Q E : Value → Shared → Prop),
    Below A₀ base outer h₀ → Fr h₀ L s.heap m → (KO w.params).In h₀ → News h₀ L s.heap news → Top q0 Lo mean mg mb h₀ → cs.kind = .function → dp + k < recursionLimit → un + 8 * k < cLine →
    (∀ v tl h' tk', Post tl v → Fr h₀ L h' m → News h₀ L h' (tl ++ news) → (∀ q ∈ tl, ∀ p ∈ news, p.1 ≠ q.1) → Q v { s with heap := h', toks := tk' }) →
    wpAny (model Challenge.rw_ja0024_01.row.prog w) (ktrTop dp un gd cn cs L a ccd cl outer) (PySem.call (.ref f) vs) Q E s

abbrev PI (x : Int) : List (Addr × Obj) → Value → Prop := fun tl v => tl = [] ∧ ∃ t, v = .int x t
abbrev PB (x : Bool) : List (Addr × Obj) → Value → Prop := fun tl v => tl = [] ∧ v = .bool x

theorem room_of {dp a k K R : Nat} (h : dp + K < R) (e : Nat.ble (a + k) K = true) : dp + a + k < R := by
  have := Nat.le_of_ble_eq_true e
  omega
theorem units_of {un a k K R : Nat} (h : un + 8 * K < R) (e : Nat.ble (a + 8 * k) (8 * K) = true) : un + a + 8 * k < R := by
  have := Nat.le_of_ble_eq_true e
  omega
/-- a contract at a call: an int, a bool -/
theorem con_int {k f : Nat} {vs : List Value} {x : Int} (C : Con k f vs (PI x)) {w : World} {mean : ExcName → Option Value} {mg mb : Str → Option Value} {dp un : Nat} {gd : Option (List Code)} {cn : Str} {cs : Scope} {a : Addr} {ccd : Value} {cl : List (Str × Addr)} {outer : List Env} {A₀ : Around} {base h₀ : Heap} {L : Addr} {m : Str → Option Value} {news : List (Addr × Obj)} {s : Shared} {Q E : Value → Shared → Prop}
    (B : Below A₀ base outer h₀) (F : Fr h₀ L s.heap m) (X : (KO w.params).In h₀) (N : News h₀ L s.heap news) (T : Top q0 Lo mean mg mb h₀) (hk : cs.kind = .function) (hd : dp + k < recursionLimit) (hu : un + 8 * k < cLine)
    (ret : ∀ t h' tk', Fr h₀ L h' m → News h₀ L h' news → Q (.int x t) { s with heap := h', toks := tk' }) :
    wpAny (model Challenge.rw_ja0024_01.row.prog w) (ktrTop dp un gd cn cs L a ccd cl outer) (PySem.call (.ref f) vs) Q E s := by
  refine C _ _ _ _ _ _ _ _ _ _ _ _ _ _ _ _ _ _ _ _ _ _ B F X N T hk hd hu ?_
  rintro v tl h' tk' ⟨rfl, t, rfl⟩ F' N' _
  exact ret t h' tk' F' N'
theorem con_bool {k f : Nat} {vs : List Value} {x : Bool} (C : Con k f vs (PB x)) {w : World} {mean : ExcName → Option Value} {mg mb : Str → Option Value} {dp un : Nat} {gd : Option (List Code)} {cn : Str} {cs : Scope} {a : Addr} {ccd : Value} {cl : List (Str × Addr)} {outer : List Env} {A₀ : Around} {base h₀ : Heap} {L : Addr} {m : Str → Option Value} {news : List (Addr × Obj)} {s : Shared} {Q E : Value → Shared → Prop}
    (B : Below A₀ base outer h₀) (F : Fr h₀ L s.heap m) (X : (KO w.params).In h₀) (N : News h₀ L s.heap news) (T : Top q0 Lo mean mg mb h₀) (hk : cs.kind = .function) (hd : dp + k < recursionLimit) (hu : un + 8 * k < cLine)
    (ret : ∀ h' tk', Fr h₀ L h' m → News h₀ L h' news → Q (.bool x) { s with heap := h', toks := tk' }) :
    wpAny (model Challenge.rw_ja0024_01.row.prog w) (ktrTop dp un gd cn cs L a ccd cl outer) (PySem.call (.ref f) vs) Q E s := by
  refine C _ _ _ _ _ _ _ _ _ _ _ _ _ _ _ _ _ _ _ _ _ _ B F X N T hk hd hu ?_
  rintro v tl h' tk' ⟨rfl, rfl⟩ F' N' _
  exact ret h' tk' F' N'

abbrev tupO (a b : Int) (t u : Tok) (n : Nat) : Obj := { cls := .type "tuple", data := .seq #[.int a t, .int b u] n }
abbrev PT (a b : Int) : List (Addr × Obj) → Value → Prop := fun tl v => ∃ D t u n, tl = [(D, tupO a b t u n)] ∧ v = .ref D
theorem con_tup {k f : Nat} {vs : List Value} {x y : Int} (C : Con k f vs (PT x y)) {w : World} {mean : ExcName → Option Value} {mg mb : Str → Option Value} {dp un : Nat} {gd : Option (List Code)} {cn : Str} {cs : Scope} {a : Addr} {ccd : Value} {cl : List (Str × Addr)} {outer : List Env} {A₀ : Around} {base h₀ : Heap} {L : Addr} {m : Str → Option Value} {news : List (Addr × Obj)} {s : Shared} {Q E : Value → Shared → Prop}
    (B : Below A₀ base outer h₀) (F : Fr h₀ L s.heap m) (X : (KO w.params).In h₀) (N : News h₀ L s.heap news) (T : Top q0 Lo mean mg mb h₀) (hk : cs.kind = .function) (hd : dp + k < recursionLimit) (hu : un + 8 * k < cLine)
    (ret : ∀ D t u n h' tk', Fr h₀ L h' m → News h₀ L h' ((D, tupO x y t u n) :: news) → (∀ p ∈ news, p.1 ≠ D) → Q (.ref D) { s with heap := h', toks := tk' }) :
    wpAny (model Challenge.rw_ja0024_01.row.prog w) (ktrTop dp un gd cn cs L a ccd cl outer) (PySem.call (.ref f) vs) Q E s := by
  refine C _ _ _ _ _ _ _ _ _ _ _ _ _ _ _ _ _ _ _ _ _ _ B F X N T hk hd hu ?_
  rintro v tl h' tk' ⟨D, t, u, n, rfl, rfl⟩ F' N' S
  exact ret D t u n h' tk' F' N' fun p hp => S _ (.head _) p hp
theorem end_tup {a b a' b' : Int} {t u : Tok} {n : Nat} {g h₀ h' : Heap} {L L' D : Addr} {m : Str → Option Value} {news rest rest' : List (Addr × Obj)} {s : Shared} {tk : Nat} {Q : Value → Shared → Prop}
    (hret : ∀ v tl h' tk', PT a b tl v → Fr h₀ L h' m → News h₀ L h' (tl ++ news) → (∀ q ∈ tl, ∀ p ∈ news, p.1 ≠ q.1) → Q v { s with heap := h', toks := tk' })
    (kF : Fr h₀ L h' m) (M : ∀ tl, News h₀ L h' tl → News h₀ L h' (tl ++ news)) (S : ∀ tl, News g L' h' tl → ∀ q ∈ tl, ∀ p ∈ news, p.1 ≠ q.1)
    (kN : News h₀ L h' ((D, tupO a' b' t u n) :: rest)) (N' : News g L' h' ((D, tupO a' b' t u n) :: rest')) (ea : a' = a) (eb : b' = b) : Q (.ref D) { s with heap := h', toks := tk } := by
  subst ea eb
  refine hret _ [(D, tupO a' b' t u n)] h' tk ⟨D, t, u, n, rfl, rfl⟩ kF (M _ fun p hp => kN p ?_) (S _ fun p hp => N' p ?_)
  · rw [List.mem_singleton.mp hp]; exact .head _
  · rw [List.mem_singleton.mp hp]; exact .head _
-- part L1
theorem ln_L1_1 : True := by
  k_with_none
  (k_with "execs cons" => (k_here; (try dsimp only); k_gentoks))
  (k_with "execs nil" => (k_here; (try dsimp only); k_gentoks))
  trivial
def leapG (y : Int) : Bool := (Int.fmod y 4 == 0) && ((Int.fmod y 100 != 0) || (Int.fmod y 400 == 0))
def delay1 (y : Int) : Int := let d := Int.fdiv (235 * y - 234) 19 * 29 + Int.fdiv (12084 + 13753 * Int.fdiv (235 * y - 234) 19) 25920; if Int.fmod (3 * (d + 1)) 7 < 3 then d + 1 else d
theorem leapG_a {y : Int} (h1 : Int.fmod y 4 = 0) (h2 : Int.fmod y 100 ≠ 0) : (Int.fmod y 100 != 0) = leapG y := by simp [leapG, h1, h2]
theorem leapG_b {y : Int} (h1 : Int.fmod y 4 = 0) (h2 : Int.fmod y 100 = 0) : (Int.fmod y 400 == 0) = leapG y := by simp [leapG, h1, h2]
theorem leapG_c {y : Int} (h1 : Int.fmod y 4 ≠ 0) : (Int.fmod y 4 == 0) = leapG y := by simp [leapG, h1]
theorem ll_a {y : Int} (h1 : Int.fmod y 400 = 0) : (Int.fmod y 400 == 0) = leapG y := by
  unfold leapG
  simp only [Int.fmod_eq_emod_of_nonneg _ (show (0 : Int) ≤ 400 by decide), Int.fmod_eq_emod_of_nonneg _ (show (0 : Int) ≤ 4 by decide), Int.fmod_eq_emod_of_nonneg _ (show (0 : Int) ≤ 100 by decide)] at *
  have h4 : y % 4 = 0 := by omega
  simp [h1, h4]
theorem ll_b {y : Int} (h1 : Int.fmod y 400 ≠ 0) (h2 : Int.fmod y 4 = 0) : (Int.fmod y 100 != 0) = leapG y := by
  simp [leapG, h1, h2]
theorem leapC_a (y : Int) (h : Int.fmod y 4 ≠ 3) : (Int.fmod y 4 == -1) = (Int.fmod y 4 == 3) := by
  rw [Int.fmod_eq_emod_of_nonneg _ (by decide)] at *
  have : y % 4 ≠ -1 := by omega
  rw [beq_eq_false_iff_ne.mpr this, beq_eq_false_iff_ne.mpr h]
theorem trunc_a {y : Int} (h : 0 ≤ y) : (if y < 0 then -y else y).fdiv (if (4 : Int) < 0 then -4 else 4) = y.fdiv 4 := by
  rw [if_neg (by omega), if_neg (by decide)]
theorem trunc_b {y : Int} {P : Prop} (h : 0 ≤ y) (h2 : (decide (y < 0) == decide ((4 : Int) < 0)) = false) : P := by
  rw [decide_eq_false (by omega), decide_eq_false (by decide)] at h2
  cases h2
set_option maxHeartbeats 0 in
theorem c_isleap (y : Int) (ty : Tok)  : Con 2 22 [.int y ty] (PB (leapG y)) := by
  unfold Con
  k_fill
  w_on
  intros; rename_i hret
  refine wpAny_call ?_
  k_dflt (refine' code_p ?k1 ?k2 ?k3 ?k4 ?k5 ?kA ?kF ?kK ?k6 ?k7 ?k8 ?k9 ?kB ?_ ?c2 ?c3 ?c4 ?c5; (case kA => exact rfl); (case kF => exact rfl); (case kK => assumption); (case k1 => k_asm); (case k2 => k_asm); (case k3 => k_asm); (case k4 => k_asm); (case k5 => k_asm); (case k6 => k_is); (case k7 => k_is); (case k8 => first | exact Nat.lt_of_le_of_lt (Nat.le_add_right _ _) (by assumption) | ktr_room); (case k9 => first | exact BindsTo.of_eq rfl | exact binds_K (by k_in) rfl (by k_is) rfl rfl rfl); (case c5 => decide); (case kB => exact locs rfl); (case c2 => exact rfl); (case c3 => exact rfl); (case c4 => exact rfl); k_whole; intro g' L' h' FG' F' N' B' X' T'; (try dsimp only); (try k_lift B'); (try k_fold))
  k_steps
  all_goals (refine hret _ [] _ _ ⟨rfl, congrArg Value.bool ?_⟩ (by k_asm) ((by assumption : ∀ tl, News _ _ _ tl → News _ _ _ (tl ++ _)) [] News.nil) (fun _ h => nomatch h))
  all_goals (first | exact leapG_a (by assumption) (by assumption) | exact leapG_b (by assumption) (by assumption) | exact leapG_c (by assumption))
set_option maxHeartbeats 0 in
theorem c_midnight (y : Int) (ty : Tok) (h0 : 0 < y) : Con 2 43 [.int y ty] (PI (y)) := by
  unfold Con
  k_fill
  w_on
  intros; rename_i hret
  refine wpAny_call ?_
  k_dflt (refine' code_p ?k1 ?k2 ?k3 ?k4 ?k5 ?kA ?kF ?kK ?k6 ?k7 ?k8 ?k9 ?kB ?_ ?c2 ?c3 ?c4 ?c5; (case kA => exact rfl); (case kF => exact rfl); (case kK => assumption); (case k1 => k_asm); (case k2 => k_asm); (case k3 => k_asm); (case k4 => k_asm); (case k5 => k_asm); (case k6 => k_is); (case k7 => k_is); (case k8 => first | exact Nat.lt_of_le_of_lt (Nat.le_add_right _ _) (by assumption) | ktr_room); (case k9 => first | exact BindsTo.of_eq rfl | exact binds_K (by k_in) rfl (by k_is) rfl rfl rfl); (case c5 => decide); (case kB => exact locs rfl); (case c2 => exact rfl); (case c3 => exact rfl); (case c4 => exact rfl); k_whole; intro g' L' h' FG' F' N' B' X' T'; (try dsimp only); (try k_lift B'); (try k_fold))
  k_steps
  all_goals (refine hret _ [] _ _ ⟨rfl, _, congrArg (Value.int · _) ?_⟩ (by k_asm) ((by assumption : ∀ tl, News _ _ _ tl → News _ _ _ (tl ++ _)) [] News.nil) (fun _ h => nomatch h))
  all_goals rfl
set_option maxHeartbeats 0 in
theorem c_jwday (y : Int) (ty : Tok)  : Con 2 50 [.int y ty] (PI (Int.fmod y 7)) := by
  unfold Con
  k_fill
  w_on
  intros; rename_i hret
  refine wpAny_call ?_
  k_dflt (refine' code_p ?k1 ?k2 ?k3 ?k4 ?k5 ?kA ?kF ?kK ?k6 ?k7 ?k8 ?k9 ?kB ?_ ?c2 ?c3 ?c4 ?c5; (case kA => exact rfl); (case kF => exact rfl); (case kK => assumption); (case k1 => k_asm); (case k2 => k_asm); (case k3 => k_asm); (case k4 => k_asm); (case k5 => k_asm); (case k6 => k_is); (case k7 => k_is); (case k8 => first | exact Nat.lt_of_le_of_lt (Nat.le_add_right _ _) (by assumption) | ktr_room); (case k9 => first | exact BindsTo.of_eq rfl | exact binds_K (by k_in) rfl (by k_is) rfl rfl rfl); (case c5 => decide); (case kB => exact locs rfl); (case c2 => exact rfl); (case c3 => exact rfl); (case c4 => exact rfl); k_whole; intro g' L' h' FG' F' N' B' X' T'; (try dsimp only); (try k_lift B'); (try k_fold))
  k_steps
  all_goals (refine hret _ [] _ _ ⟨rfl, _, congrArg (Value.int · _) ?_⟩ (by k_asm) ((by assumption : ∀ tl, News _ _ _ tl → News _ _ _ (tl ++ _)) [] News.nil) (fun _ h => nomatch h))
  all_goals rfl
set_option maxHeartbeats 0 in
theorem c_leapJ (y : Int) (ty : Tok)  : Con 2 155 [.int y ty] (PB (Int.fmod y 4 == 0)) := by
  unfold Con
  k_fill
  w_on
  intros; rename_i hret
  refine wpAny_call ?_
  k_dflt (refine' code_p ?k1 ?k2 ?k3 ?k4 ?k5 ?kA ?kF ?kK ?k6 ?k7 ?k8 ?k9 ?kB ?_ ?c2 ?c3 ?c4 ?c5; (case kA => exact rfl); (case kF => exact rfl); (case kK => assumption); (case k1 => k_asm); (case k2 => k_asm); (case k3 => k_asm); (case k4 => k_asm); (case k5 => k_asm); (case k6 => k_is); (case k7 => k_is); (case k8 => first | exact Nat.lt_of_le_of_lt (Nat.le_add_right _ _) (by assumption) | ktr_room); (case k9 => first | exact BindsTo.of_eq rfl | exact binds_K (by k_in) rfl (by k_is) rfl rfl rfl); (case c5 => decide); (case kB => exact locs rfl); (case c2 => exact rfl); (case c3 => exact rfl); (case c4 => exact rfl); k_whole; intro g' L' h' FG' F' N' B' X' T'; (try dsimp only); (try k_lift B'); (try k_fold))
  k_steps
  all_goals (refine hret _ [] _ _ ⟨rfl, congrArg Value.bool ?_⟩ (by k_asm) ((by assumption : ∀ tl, News _ _ _ tl → News _ _ _ (tl ++ _)) [] News.nil) (fun _ h => nomatch h))
  all_goals rfl
set_option maxHeartbeats 0 in
theorem c_leapA (y : Int) (ty : Tok) (h0 : 533 ≤ y) : Con 2 198 [.int y ty] (PB (Int.fmod y 4 == 0)) := by
  unfold Con
  k_fill
  w_on
  intros; rename_i hret
  refine wpAny_call ?_
  k_dflt (refine' code_p ?k1 ?k2 ?k3 ?k4 ?k5 ?kA ?kF ?kK ?k6 ?k7 ?k8 ?k9 ?kB ?_ ?c2 ?c3 ?c4 ?c5; (case kA => exact rfl); (case kF => exact rfl); (case kK => assumption); (case k1 => k_asm); (case k2 => k_asm); (case k3 => k_asm); (case k4 => k_asm); (case k5 => k_asm); (case k6 => k_is); (case k7 => k_is); (case k8 => first | exact Nat.lt_of_le_of_lt (Nat.le_add_right _ _) (by assumption) | ktr_room); (case k9 => first | exact BindsTo.of_eq rfl | exact binds_K (by k_in) rfl (by k_is) rfl rfl rfl); (case c5 => decide); (case kB => exact locs rfl); (case c2 => exact rfl); (case c3 => exact rfl); (case c4 => exact rfl); k_whole; intro g' L' h' FG' F' N' B' X' T'; (try dsimp only); (try k_lift B'); (try k_fold))
  k_steps
  all_goals (refine hret _ [] _ _ ⟨rfl, congrArg Value.bool ?_⟩ (by k_asm) ((by assumption : ∀ tl, News _ _ _ tl → News _ _ _ (tl ++ _)) [] News.nil) (fun _ h => nomatch h))
  all_goals rfl
set_option maxHeartbeats 0 in
theorem c_leapC (y : Int) (ty : Tok)  : Con 2 229 [.int y ty] (PB (Int.fmod y 4 == 3)) := by
  unfold Con
  k_fill
  w_on
  intros; rename_i hret
  refine wpAny_call ?_
  k_dflt (refine' code_p ?k1 ?k2 ?k3 ?k4 ?k5 ?kA ?kF ?kK ?k6 ?k7 ?k8 ?k9 ?kB ?_ ?c2 ?c3 ?c4 ?c5; (case kA => exact rfl); (case kF => exact rfl); (case kK => assumption); (case k1 => k_asm); (case k2 => k_asm); (case k3 => k_asm); (case k4 => k_asm); (case k5 => k_asm); (case k6 => k_is); (case k7 => k_is); (case k8 => first | exact Nat.lt_of_le_of_lt (Nat.le_add_right _ _) (by assumption) | ktr_room); (case k9 => first | exact BindsTo.of_eq rfl | exact binds_K (by k_in) rfl (by k_is) rfl rfl rfl); (case c5 => decide); (case kB => exact locs rfl); (case c2 => exact rfl); (case c3 => exact rfl); (case c4 => exact rfl); k_whole; intro g' L' h' FG' F' N' B' X' T'; (try dsimp only); (try k_lift B'); (try k_fold))
  k_steps
  all_goals (refine hret _ [] _ _ ⟨rfl, congrArg Value.bool ?_⟩ (by k_asm) ((by assumption : ∀ tl, News _ _ _ tl → News _ _ _ (tl ++ _)) [] News.nil) (fun _ h => nomatch h))
  all_goals (first | rfl | exact leapC_a y (by assumption))
set_option maxHeartbeats 0 in
theorem c_leapH (y : Int) (ty : Tok)  : Con 2 257 [.int y ty] (PB (decide (Int.fmod (y * 7 + 1) 19 < 7))) := by
  unfold Con
  k_fill
  w_on
  intros; rename_i hret
  refine wpAny_call ?_
  k_dflt (refine' code_p ?k1 ?k2 ?k3 ?k4 ?k5 ?kA ?kF ?kK ?k6 ?k7 ?k8 ?k9 ?kB ?_ ?c2 ?c3 ?c4 ?c5; (case kA => exact rfl); (case kF => exact rfl); (case kK => assumption); (case k1 => k_asm); (case k2 => k_asm); (case k3 => k_asm); (case k4 => k_asm); (case k5 => k_asm); (case k6 => k_is); (case k7 => k_is); (case k8 => first | exact Nat.lt_of_le_of_lt (Nat.le_add_right _ _) (by assumption) | ktr_room); (case k9 => first | exact BindsTo.of_eq rfl | exact binds_K (by k_in) rfl (by k_is) rfl rfl rfl); (case c5 => decide); (case kB => exact locs rfl); (case c2 => exact rfl); (case c3 => exact rfl); (case c4 => exact rfl); k_whole; intro g' L' h' FG' F' N' B' X' T'; (try dsimp only); (try k_lift B'); (try k_fold))
  k_steps
  all_goals (refine hret _ [] _ _ ⟨rfl, congrArg Value.bool ?_⟩ (by k_asm) ((by assumption : ∀ tl, News _ _ _ tl → News _ _ _ (tl ++ _)) [] News.nil) (fun _ h => nomatch h))
  all_goals rfl
set_option maxHeartbeats 0 in
theorem c_delay1 (y : Int) (ty : Tok)  : Con 2 271 [.int y ty] (PI (delay1 y)) := by
  unfold Con
  k_fill
  w_on
  intros; rename_i hret
  refine wpAny_call ?_
  k_dflt (refine' code_p ?k1 ?k2 ?k3 ?k4 ?k5 ?kA ?kF ?kK ?k6 ?k7 ?k8 ?k9 ?kB ?_ ?c2 ?c3 ?c4 ?c5; (case kA => exact rfl); (case kF => exact rfl); (case kK => assumption); (case k1 => k_asm); (case k2 => k_asm); (case k3 => k_asm); (case k4 => k_asm); (case k5 => k_asm); (case k6 => k_is); (case k7 => k_is); (case k8 => first | exact Nat.lt_of_le_of_lt (Nat.le_add_right _ _) (by assumption) | ktr_room); (case k9 => first | exact BindsTo.of_eq rfl | exact binds_K (by k_in) rfl (by k_is) rfl rfl rfl); (case c5 => decide); (case kB => exact locs rfl); (case c2 => exact rfl); (case c3 => exact rfl); (case c4 => exact rfl); k_whole; intro g' L' h' FG' F' N' B' X' T'; (try dsimp only); (try k_lift B'); (try k_fold))
  k_steps
  all_goals (refine hret _ [] _ _ ⟨rfl, _, congrArg (Value.int · _) ?_⟩ (by k_asm) ((by assumption : ∀ tl, News _ _ _ tl → News _ _ _ (tl ++ _)) [] News.nil) (fun _ h => nomatch h))
  all_goals ((unfold delay1; dsimp only; split <;> first | rfl | (exfalso; omega)))
set_option maxHeartbeats 0 in
theorem c_leapI (y : Int) (ty : Tok)  : Con 2 343 [.int y ty] (PB (decide (Int.fmod (y * 11 + 14) 30 < 11))) := by
  unfold Con
  k_fill
  w_on
  intros; rename_i hret
  refine wpAny_call ?_
  k_dflt (refine' code_p ?k1 ?k2 ?k3 ?k4 ?k5 ?kA ?kF ?kK ?k6 ?k7 ?k8 ?k9 ?kB ?_ ?c2 ?c3 ?c4 ?c5; (case kA => exact rfl); (case kF => exact rfl); (case kK => assumption); (case k1 => k_asm); (case k2 => k_asm); (case k3 => k_asm); (case k4 => k_asm); (case k5 => k_asm); (case k6 => k_is); (case k7 => k_is); (case k8 => first | exact Nat.lt_of_le_of_lt (Nat.le_add_right _ _) (by assumption) | ktr_room); (case k9 => first | exact BindsTo.of_eq rfl | exact binds_K (by k_in) rfl (by k_is) rfl rfl rfl); (case c5 => decide); (case kB => exact locs rfl); (case c2 => exact rfl); (case c3 => exact rfl); (case c4 => exact rfl); k_whole; intro g' L' h' FG' F' N' B' X' T'; (try dsimp only); (try k_lift B'); (try k_fold))
  k_steps
  all_goals (refine hret _ [] _ _ ⟨rfl, congrArg Value.bool ?_⟩ (by k_asm) ((by assumption : ∀ tl, News _ _ _ tl → News _ _ _ (tl ++ _)) [] News.nil) (fun _ h => nomatch h))
  all_goals rfl
set_option maxHeartbeats 0 in
theorem c_trunc4 (y : Int) (ty : Tok) (td : Tok) (h0 : 0 ≤ y) : Con 2 36 [.int y ty, .int 4 td] (PI (Int.fdiv y 4)) := by
  unfold Con
  k_fill
  w_on
  intros; rename_i hret
  refine wpAny_call ?_
  k_dflt (refine' code_p ?k1 ?k2 ?k3 ?k4 ?k5 ?kA ?kF ?kK ?k6 ?k7 ?k8 ?k9 ?kB ?_ ?c2 ?c3 ?c4 ?c5; (case kA => exact rfl); (case kF => exact rfl); (case kK => assumption); (case k1 => k_asm); (case k2 => k_asm); (case k3 => k_asm); (case k4 => k_asm); (case k5 => k_asm); (case k6 => k_is); (case k7 => k_is); (case k8 => first | exact Nat.lt_of_le_of_lt (Nat.le_add_right _ _) (by assumption) | ktr_room); (case k9 => first | exact BindsTo.of_eq rfl | exact binds_K (by k_in) rfl (by k_is) rfl rfl rfl); (case c5 => decide); (case kB => exact locs rfl); (case c2 => exact rfl); (case c3 => exact rfl); (case c4 => exact rfl); k_whole; intro g' L' h' FG' F' N' B' X' T'; (try dsimp only); (try k_lift B'); (try k_fold))
  k_steps
  all_goals (refine hret _ [] _ _ ⟨rfl, _, congrArg (Value.int · _) ?_⟩ (by k_asm) ((by assumption : ∀ tl, News _ _ _ tl → News _ _ _ (tl ++ _)) [] News.nil) (fun _ h => nomatch h))
  all_goals (first | exact trunc_a (by assumption) | exact trunc_b (by assumption) (by assumption))
set_option maxHeartbeats 0 in
theorem c_jdC (y m : Int) (ty tm : Tok) (td : Tok)  : Con 2 236 [.int y ty, .int m tm, .int 1 td] (PI (1 + (m - 1) * 30 + (y - 1) * 365 + Int.fdiv y 4 + 1825030 - 1)) := by
  unfold Con
  k_fill
  w_on
  intros; rename_i hret
  refine wpAny_call ?_
  k_dflt (refine' code_p ?k1 ?k2 ?k3 ?k4 ?k5 ?kA ?kF ?kK ?k6 ?k7 ?k8 ?k9 ?kB ?_ ?c2 ?c3 ?c4 ?c5; (case kA => exact rfl); (case kF => exact rfl); (case kK => assumption); (case k1 => k_asm); (case k2 => k_asm); (case k3 => k_asm); (case k4 => k_asm); (case k5 => k_asm); (case k6 => k_is); (case k7 => k_is); (case k8 => first | exact Nat.lt_of_le_of_lt (Nat.le_add_right _ _) (by assumption) | ktr_room); (case k9 => first | exact BindsTo.of_eq rfl | exact binds_K (by k_in) rfl (by k_is) rfl rfl rfl); (case c5 => decide); (case kB => exact locs rfl); (case c2 => exact rfl); (case c3 => exact rfl); (case c4 => exact rfl); k_whole; intro g' L' h' FG' F' N' B' X' T'; (try dsimp only); (try k_lift B'); (try k_fold))
  k_steps
  all_goals (refine hret _ [] _ _ ⟨rfl, _, congrArg (Value.int · _) ?_⟩ (by k_asm) ((by assumption : ∀ tl, News _ _ _ tl → News _ _ _ (tl ++ _)) [] News.nil) (fun _ h => nomatch h))
  all_goals rfl
set_option maxHeartbeats 0 in
theorem c_jdI (y m : Int) (ty tm : Tok) (td : Tok)  : Con 2 350 [.int y ty, .int m tm, .int 1 td] (PI (1 + -(Int.fdiv (-59 * (m - 1)) 2) + (y - 1) * 354 + Int.fdiv (3 + 11 * y) 30 + 1948440 - 1)) := by
  unfold Con
  k_fill
  w_on
  intros; rename_i hret
  refine wpAny_call ?_
  k_dflt (refine' code_p ?k1 ?k2 ?k3 ?k4 ?k5 ?kA ?kF ?kK ?k6 ?k7 ?k8 ?k9 ?kB ?_ ?c2 ?c3 ?c4 ?c5; (case kA => exact rfl); (case kF => exact rfl); (case kK => assumption); (case k1 => k_asm); (case k2 => k_asm); (case k3 => k_asm); (case k4 => k_asm); (case k5 => k_asm); (case k6 => k_is); (case k7 => k_is); (case k8 => first | exact Nat.lt_of_le_of_lt (Nat.le_add_right _ _) (by assumption) | ktr_room); (case k9 => first | exact BindsTo.of_eq rfl | exact binds_K (by k_in) rfl (by k_is) rfl rfl rfl); (case c5 => decide); (case kB => exact locs rfl); (case c2 => exact rfl); (case c3 => exact rfl); (case c4 => exact rfl); k_whole; intro g' L' h' FG' F' N' B' X' T'; (try dsimp only); (try k_lift B'); (try k_fold))
  k_steps
  all_goals (refine hret _ [] _ _ ⟨rfl, _, congrArg (Value.int · _) ?_⟩ (by k_asm) ((by assumption : ∀ tl, News _ _ _ tl → News _ _ _ (tl ++ _)) [] News.nil) (fun _ h => nomatch h))
  all_goals rfl
set_option maxHeartbeats 0 in
theorem c_lawlong (y : Int) (ty : Tok)  : Con 2 392 [.int y ty] (PB (leapG y)) := by
  unfold Con
  k_fill
  w_on
  intros; rename_i hret
  refine wpAny_call ?_
  k_dflt (refine' code_p ?k1 ?k2 ?k3 ?k4 ?k5 ?kA ?kF ?kK ?k6 ?k7 ?k8 ?k9 ?kB ?_ ?c2 ?c3 ?c4 ?c5; (case kA => exact rfl); (case kF => exact rfl); (case kK => assumption); (case k1 => k_asm); (case k2 => k_asm); (case k3 => k_asm); (case k4 => k_asm); (case k5 => k_asm); (case k6 => k_is); (case k7 => k_is); (case k8 => first | exact Nat.lt_of_le_of_lt (Nat.le_add_right _ _) (by assumption) | ktr_room); (case k9 => first | exact BindsTo.of_eq rfl | exact binds_K (by k_in) rfl (by k_is) rfl rfl rfl); (case c5 => decide); (case kB => exact locs rfl); (case c2 => exact rfl); (case c3 => exact rfl); (case c4 => exact rfl); k_whole; intro g' L' h' FG' F' N' B' X' T'; (try dsimp only); (try k_lift B'); (try k_fold))
  k_steps
  all_goals (refine hret _ [] _ _ ⟨rfl, congrArg Value.bool ?_⟩ (by k_asm) ((by assumption : ∀ tl, News _ _ _ tl → News _ _ _ (tl ++ _)) [] News.nil) (fun _ h => nomatch h))
  all_goals (first | exact ll_a (by assumption) | exact ll_b (by assumption) (by assumption) | exact leapG_c (by assumption))
-- part L2
theorem ln_L2_1 : True := by
  k_with_none
  (k_with "execs cons" => (k_here; (try dsimp only); k_gentoks))
  (k_with "execs nil" => (k_here; (try dsimp only); k_gentoks))
  (k_with "call ref" => (k_here; k_dflt (refine' con_bool (c_isleap _ _) ?k1Zq ?k2Zq ?k3Zq ?k4Zq ?k5Zq ?kKZq ?kdZq ?kuZq ?_; (case k1Zq => k_asm); (case k2Zq => k_asm); (case k3Zq => k_asm); (case k4Zq => k_asm); (case k5Zq => k_asm); (case kKZq => first | exact rfl | assumption); (case kdZq => first | exact room_of (by assumption) (by rfl) | ktr_room); (case kuZq => first | exact units_of (by assumption) (by rfl) | ktr_units)); intro h9 tk9 F9 N9; (try dsimp only); (try k_fold); walk_say "USE c_isleap"))
  (k_with "call ref" => (k_here; k_dflt (refine' con_bool (c_leapJ _ _) ?k1Zq ?k2Zq ?k3Zq ?k4Zq ?k5Zq ?kKZq ?kdZq ?kuZq ?_; (case k1Zq => k_asm); (case k2Zq => k_asm); (case k3Zq => k_asm); (case k4Zq => k_asm); (case k5Zq => k_asm); (case kKZq => first | exact rfl | assumption); (case kdZq => first | exact room_of (by assumption) (by rfl) | ktr_room); (case kuZq => first | exact units_of (by assumption) (by rfl) | ktr_units)); intro h9 tk9 F9 N9; (try dsimp only); (try k_fold); walk_say "USE c_leapJ"))
  (k_with "call ref" => (k_here; k_dflt (refine' con_bool (c_leapC _ _) ?k1Zq ?k2Zq ?k3Zq ?k4Zq ?k5Zq ?kKZq ?kdZq ?kuZq ?_; (case k1Zq => k_asm); (case k2Zq => k_asm); (case k3Zq => k_asm); (case k4Zq => k_asm); (case k5Zq => k_asm); (case kKZq => first | exact rfl | assumption); (case kdZq => first | exact room_of (by assumption) (by rfl) | ktr_room); (case kuZq => first | exact units_of (by assumption) (by rfl) | ktr_units)); intro h9 tk9 F9 N9; (try dsimp only); (try k_fold); walk_say "USE c_leapC"))
  (k_with "call ref" => (k_here; k_dflt (refine' con_bool (c_leapI _ _) ?k1Zq ?k2Zq ?k3Zq ?k4Zq ?k5Zq ?kKZq ?kdZq ?kuZq ?_; (case k1Zq => k_asm); (case k2Zq => k_asm); (case k3Zq => k_asm); (case k4Zq => k_asm); (case k5Zq => k_asm); (case kKZq => first | exact rfl | assumption); (case kdZq => first | exact room_of (by assumption) (by rfl) | ktr_room); (case kuZq => first | exact units_of (by assumption) (by rfl) | ktr_units)); intro h9 tk9 F9 N9; (try dsimp only); (try k_fold); walk_say "USE c_leapI"))
  trivial
def mlI (y m : Int) : Int := if ([1, 3, 5, 7, 9, 11].any fun x : Int => x == m) = true then 30 else if m = 12 then (if Int.fmod (y * 11 + 14) 30 < 11 then 30 else 29) else 29
theorem eI1 {y m : Int} (h : ([1, 3, 5, 7, 9, 11].any fun x : Int => x == m) = true) : 30 = mlI y m := (if_pos h).symm
theorem eI2 {y m : Int} (h : ([1, 3, 5, 7, 9, 11].any fun x : Int => x == m) = false) (h2 : m = 12) (h3 : Int.fmod (y * 11 + 14) 30 < 11) : 30 = mlI y m := by rw [mlI, h, if_neg Bool.false_ne_true, if_pos h2, if_pos h3]
theorem eI3 {y m : Int} (h : ([1, 3, 5, 7, 9, 11].any fun x : Int => x == m) = false) (h2 : m = 12) (h3 : ¬ Int.fmod (y * 11 + 14) 30 < 11) : 29 = mlI y m := by rw [mlI, h, if_neg Bool.false_ne_true, if_pos h2, if_neg h3]
theorem eI4 {y m : Int} (h : ([1, 3, 5, 7, 9, 11].any fun x : Int => x == m) = false) (h2 : m ≠ 12) : 29 = mlI y m := by rw [mlI, h, if_neg Bool.false_ne_true, if_neg h2]
def adjG (y m : Int) : Int := if m ≤ 2 then 0 else if leapG y = true then -1 else -2
def jdG (y m d : Int) : Int := 1721426 - 1 + 365 * (y - 1) + Int.fdiv (y - 1) 4 + -(Int.fdiv (y - 1) 100) + Int.fdiv (y - 1) 400 + (Int.fdiv (367 * m - 362) 12 + adjG y m + d)
def mlJ (y m : Int) : Int := if m = 2 then (if Int.fmod y 4 = 0 then 29 else 28) else if ([4, 6, 9, 11].any fun x : Int => x == m) = true then 30 else 31
theorem eJ1 {y m : Int} (h : m = 2) (h2 : Int.fmod y 4 = 0) : 29 = mlJ y m := by rw [mlJ, if_pos h, if_pos h2]
theorem eJ2 {y m : Int} (h : m = 2) (h2 : Int.fmod y 4 ≠ 0) : 28 = mlJ y m := by rw [mlJ, if_pos h, if_neg h2]
theorem eJ3 {y m : Int} (h : m ≠ 2) (h2 : ([4, 6, 9, 11].any fun x : Int => x == m) = true) : 30 = mlJ y m := by rw [mlJ, if_neg h, if_pos h2]
theorem eJ4 {y m : Int} (h : m ≠ 2) (h2 : ([4, 6, 9, 11].any fun x : Int => x == m) = false) : 31 = mlJ y m := by rw [mlJ, if_neg h, h2, if_neg Bool.false_ne_true]
set_option maxHeartbeats 0 in
theorem c_legalG (y m d : Int) (ty tm td : Tok) (h0 : 1 ≤ d ∧ d ≤ 28) : Con 4 126 [.int y ty, .int m tm, .int d td] (PB (true)) := by
  unfold Con
  k_fill
  w_on
  intros; rename_i hret
  refine wpAny_call ?_
  k_dflt (refine' code_p ?k1 ?k2 ?k3 ?k4 ?k5 ?kA ?kF ?kK ?k6 ?k7 ?k8 ?k9 ?kB ?_ ?c2 ?c3 ?c4 ?c5; (case kA => exact rfl); (case kF => exact rfl); (case kK => assumption); (case k1 => k_asm); (case k2 => k_asm); (case k3 => k_asm); (case k4 => k_asm); (case k5 => k_asm); (case k6 => k_is); (case k7 => k_is); (case k8 => first | exact Nat.lt_of_le_of_lt (Nat.le_add_right _ _) (by assumption) | ktr_room); (case k9 => first | exact BindsTo.of_eq rfl | exact binds_K (by k_in) rfl (by k_is) rfl rfl rfl); (case c5 => decide); (case kB => exact locs rfl); (case c2 => exact rfl); (case c3 => exact rfl); (case c4 => exact rfl); k_whole; intro g' L' h' FG' F' N' B' X' T'; (try dsimp only); (try k_lift B'); (try k_fold))
  have tup119 : ∃ items, IsTup g' 119 items ∧ IntsAre items.toList [4, 6, 9, 11] := ⟨_, ⟨_, X' 119 _ (by k_is), rfl, _, rfl⟩, by repeat constructor⟩
  obtain ⟨it119, hit119, hin119⟩ := tup119
  k_steps
  all_goals (refine hret _ [] _ _ ⟨rfl, congrArg Value.bool ?_⟩ (by k_asm) ((by assumption : ∀ tl, News _ _ _ tl → News _ _ _ (tl ++ _)) [] News.nil) (fun _ h => nomatch h))
  all_goals (rfl)
set_option maxHeartbeats 0 in
theorem c_mlJ (y m : Int) (ty tm : Tok)  : Con 4 162 [.int y ty, .int m tm] (PI (mlJ y m)) := by
  unfold Con
  k_fill
  w_on
  intros; rename_i hret
  refine wpAny_call ?_
  k_dflt (refine' code_p ?k1 ?k2 ?k3 ?k4 ?k5 ?kA ?kF ?kK ?k6 ?k7 ?k8 ?k9 ?kB ?_ ?c2 ?c3 ?c4 ?c5; (case kA => exact rfl); (case kF => exact rfl); (case kK => assumption); (case k1 => k_asm); (case k2 => k_asm); (case k3 => k_asm); (case k4 => k_asm); (case k5 => k_asm); (case k6 => k_is); (case k7 => k_is); (case k8 => first | exact Nat.lt_of_le_of_lt (Nat.le_add_right _ _) (by assumption) | ktr_room); (case k9 => first | exact BindsTo.of_eq rfl | exact binds_K (by k_in) rfl (by k_is) rfl rfl rfl); (case c5 => decide); (case kB => exact locs rfl); (case c2 => exact rfl); (case c3 => exact rfl); (case c4 => exact rfl); k_whole; intro g' L' h' FG' F' N' B' X' T'; (try dsimp only); (try k_lift B'); (try k_fold))
  have tup148 : ∃ items, IsTup g' 148 items ∧ IntsAre items.toList [4, 6, 9, 11] := ⟨_, ⟨_, X' 148 _ (by k_is), rfl, _, rfl⟩, by repeat constructor⟩
  obtain ⟨it148, hit148, hin148⟩ := tup148
  k_steps
  all_goals (refine hret _ [] _ _ ⟨rfl, _, congrArg (Value.int · _) ?_⟩ (by k_asm) ((by assumption : ∀ tl, News _ _ _ tl → News _ _ _ (tl ++ _)) [] News.nil) (fun _ h => nomatch h))
  all_goals (law_clear; first | exact eJ1 (by assumption) (by assumption) | exact eJ2 (by assumption) (by assumption) | exact eJ3 (by assumption) (by assumption) | exact eJ4 (by assumption) (by assumption))
set_option maxHeartbeats 0 in
theorem c_mlCa (y m : Int) (ty tm : Tok) (h0 : m ≤ 12) : Con 4 243 [.int y ty, .int m tm] (PI (30)) := by
  unfold Con
  k_fill
  w_on
  intros; rename_i hret
  refine wpAny_call ?_
  k_dflt (refine' code_p ?k1 ?k2 ?k3 ?k4 ?k5 ?kA ?kF ?kK ?k6 ?k7 ?k8 ?k9 ?kB ?_ ?c2 ?c3 ?c4 ?c5; (case kA => exact rfl); (case kF => exact rfl); (case kK => assumption); (case k1 => k_asm); (case k2 => k_asm); (case k3 => k_asm); (case k4 => k_asm); (case k5 => k_asm); (case k6 => k_is); (case k7 => k_is); (case k8 => first | exact Nat.lt_of_le_of_lt (Nat.le_add_right _ _) (by assumption) | ktr_room); (case k9 => first | exact BindsTo.of_eq rfl | exact binds_K (by k_in) rfl (by k_is) rfl rfl rfl); (case c5 => decide); (case kB => exact locs rfl); (case c2 => exact rfl); (case c3 => exact rfl); (case c4 => exact rfl); k_whole; intro g' L' h' FG' F' N' B' X' T'; (try dsimp only); (try k_lift B'); (try k_fold))
  k_steps
  all_goals (refine hret _ [] _ _ ⟨rfl, _, congrArg (Value.int · _) ?_⟩ (by k_asm) ((by assumption : ∀ tl, News _ _ _ tl → News _ _ _ (tl ++ _)) [] News.nil) (fun _ h => nomatch h))
  all_goals (rfl)
set_option maxHeartbeats 0 in
theorem c_mlCb (y : Int) (ty : Tok) (tm : Tok)  : Con 4 243 [.int y ty, .int 13 tm] (PI (if Int.fmod y 4 = 3 then 6 else 5)) := by
  unfold Con
  k_fill
  w_on
  intros; rename_i hret
  refine wpAny_call ?_
  k_dflt (refine' code_p ?k1 ?k2 ?k3 ?k4 ?k5 ?kA ?kF ?kK ?k6 ?k7 ?k8 ?k9 ?kB ?_ ?c2 ?c3 ?c4 ?c5; (case kA => exact rfl); (case kF => exact rfl); (case kK => assumption); (case k1 => k_asm); (case k2 => k_asm); (case k3 => k_asm); (case k4 => k_asm); (case k5 => k_asm); (case k6 => k_is); (case k7 => k_is); (case k8 => first | exact Nat.lt_of_le_of_lt (Nat.le_add_right _ _) (by assumption) | ktr_room); (case k9 => first | exact BindsTo.of_eq rfl | exact binds_K (by k_in) rfl (by k_is) rfl rfl rfl); (case c5 => decide); (case kB => exact locs rfl); (case c2 => exact rfl); (case c3 => exact rfl); (case c4 => exact rfl); k_whole; intro g' L' h' FG' F' N' B' X' T'; (try dsimp only); (try k_lift B'); (try k_fold))
  k_steps
  all_goals (refine hret _ [] _ _ ⟨rfl, _, congrArg (Value.int · _) ?_⟩ (by k_asm) ((by assumption : ∀ tl, News _ _ _ tl → News _ _ _ (tl ++ _)) [] News.nil) (fun _ h => nomatch h))
  all_goals ((law_clear; (try simp only [List.any_cons, List.any_nil, Bool.or_false, Bool.or_eq_true, Bool.or_eq_false_iff, beq_iff_eq, beq_eq_false_iff_ne, decide_eq_true_eq, decide_eq_false_iff_not] at *); (repeat' split) <;> first | rfl | omega))
theorem c_mlC (y m : Int) (ty tm : Tok) (h0 : m ≤ 13) : Con 4 243 [.int y ty, .int m tm] (PI (if m = 13 then (if Int.fmod y 4 = 3 then 6 else 5) else 30)) := by
  by_cases h : m = 13
  · subst h; exact c_mlCb y ty tm
  · rw [if_neg h]; exact c_mlCa y m ty tm (by omega)
set_option maxHeartbeats 0 in
theorem c_mlI (y m : Int) (ty tm : Tok)  : Con 4 357 [.int y ty, .int m tm] (PI (mlI y m)) := by
  unfold Con
  k_fill
  w_on
  intros; rename_i hret
  refine wpAny_call ?_
  k_dflt (refine' code_p ?k1 ?k2 ?k3 ?k4 ?k5 ?kA ?kF ?kK ?k6 ?k7 ?k8 ?k9 ?kB ?_ ?c2 ?c3 ?c4 ?c5; (case kA => exact rfl); (case kF => exact rfl); (case kK => assumption); (case k1 => k_asm); (case k2 => k_asm); (case k3 => k_asm); (case k4 => k_asm); (case k5 => k_asm); (case k6 => k_is); (case k7 => k_is); (case k8 => first | exact Nat.lt_of_le_of_lt (Nat.le_add_right _ _) (by assumption) | ktr_room); (case k9 => first | exact BindsTo.of_eq rfl | exact binds_K (by k_in) rfl (by k_is) rfl rfl rfl); (case c5 => decide); (case kB => exact locs rfl); (case c2 => exact rfl); (case c3 => exact rfl); (case c4 => exact rfl); k_whole; intro g' L' h' FG' F' N' B' X' T'; (try dsimp only); (try k_lift B'); (try k_fold))
  have tup336 : ∃ items, IsTup g' 336 items ∧ IntsAre items.toList [1, 3, 5, 7, 9, 11] := ⟨_, ⟨_, X' 336 _ (by k_is), rfl, _, rfl⟩, by repeat constructor⟩
  obtain ⟨it336, hit336, hin336⟩ := tup336
  k_steps
  all_goals (refine hret _ [] _ _ ⟨rfl, _, congrArg (Value.int · _) ?_⟩ (by k_asm) ((by assumption : ∀ tl, News _ _ _ tl → News _ _ _ (tl ++ _)) [] News.nil) (fun _ h => nomatch h))
  all_goals (law_clear; first | exact eI1 (by assumption) | exact eI2 (by assumption) (by assumption) (by assumption) | exact eI3 (by assumption) (by assumption) (by assumption) | exact eI4 (by assumption) (by assumption))
set_option maxHeartbeats 0 in
theorem c_mlD (y m : Int) (ty tm : Tok) (h0 : 2 ≤ m) : Con 4 328 [.int y ty, .int m tm] (PI (if m ≤ 6 then 31 else 30)) := by
  unfold Con
  k_fill
  w_on
  intros; rename_i hret
  refine wpAny_call ?_
  k_dflt (refine' code_p ?k1 ?k2 ?k3 ?k4 ?k5 ?kA ?kF ?kK ?k6 ?k7 ?k8 ?k9 ?kB ?_ ?c2 ?c3 ?c4 ?c5; (case kA => exact rfl); (case kF => exact rfl); (case kK => assumption); (case k1 => k_asm); (case k2 => k_asm); (case k3 => k_asm); (case k4 => k_asm); (case k5 => k_asm); (case k6 => k_is); (case k7 => k_is); (case k8 => first | exact Nat.lt_of_le_of_lt (Nat.le_add_right _ _) (by assumption) | ktr_room); (case k9 => first | exact BindsTo.of_eq rfl | exact binds_K (by k_in) rfl (by k_is) rfl rfl rfl); (case c5 => decide); (case kB => exact locs rfl); (case c2 => exact rfl); (case c3 => exact rfl); (case c4 => exact rfl); k_whole; intro g' L' h' FG' F' N' B' X' T'; (try dsimp only); (try k_lift B'); (try k_fold))
  have tup314 : ∃ items, IsTup g' 314 items ∧ IntsAre items.toList [2, 3, 4, 5, 6] := ⟨_, ⟨_, X' 314 _ (by k_is), rfl, _, rfl⟩, by repeat constructor⟩
  obtain ⟨it314, hit314, hin314⟩ := tup314
  k_steps
  all_goals (refine hret _ [] _ _ ⟨rfl, _, congrArg (Value.int · _) ?_⟩ (by k_asm) ((by assumption : ∀ tl, News _ _ _ tl → News _ _ _ (tl ++ _)) [] News.nil) (fun _ h => nomatch h))
  all_goals ((law_clear; (try simp only [List.any_cons, List.any_nil, Bool.or_false, Bool.or_eq_true, Bool.or_eq_false_iff, beq_iff_eq, beq_eq_false_iff_ne, decide_eq_true_eq, decide_eq_false_iff_not] at *); (repeat' split) <;> first | rfl | omega))
-- part B1
/-- entering a def with captured names that leaves alone whatever its caller has made -/
theorem code_pC {prog : Program} {w : World} {A A₀ : Around} {s : Shared} {K : Frag} {L : Addr} {h₀ base : Heap} {m mg mb : Str → Option Value} {news : List (Addr × Obj)} {p : Program} {loose : List Str} {mean : ExcName → Option Value}
    {env : Env} {outer : List Env} {R : Result → Shared → Prop} {name qual : Str} {params : Arguments} {body : List Stmt} {scope : Scope} {dV kV doc pm cdv ct oc : Value} {an od : Option Addr} {osl : Array (Option Value)} {f : Addr} {args : Args} {binds : List (Str × Value)}
    (B : Below A₀ base outer h₀) (F : Fr h₀ L s.heap m) (X₀ : K.In h₀) (N : News h₀ L s.heap news) (T : Top p loose mean mg mb h₀) (hA : A.frames = some (env :: outer)) (hf : env.frame = some L) (hke : env.scope.kind = .function)
    (ho : K.lookup f = some ⟨oc, od, .func (fnOf name qual params body scope dV kV doc pm an cdv ct), osl⟩) (hcd : codeIn K cdv qual = true) (hroom : A.depth < recursionLimit)
    (hbind : BindsTo s (fnOf name qual params body scope dV kV doc pm an cdv ct) args binds) (hkind : (binds.all fun y => scope.names.lookup y.1 == some .local || scope.names.lookup y.1 == some .cell) = true)
    (hnd : ((cellsFrom 0 scope.names []).map (·.1)).Nodup)
    (h : ∀ g L' h₁ tk cells, Fr h₀ L g m → Fr g L' h₁ (bindL (envOfC qual scope L' f cdv).kindOf binds fun _ => none) → News g L' h₁ (cells ++ []) →
      CellsAre (bindC (envOfC qual scope L' f cdv).kindOf binds fun _ => none) (cellsFrom (L' + 1) scope.names []) cells → Below A base (env :: outer) g → K.In g → Top p loose mean mg mb g →
      wpAny (model prog w) (A.deeper (envOfC qual scope L' f cdv)) (execs body (envOfC qual scope L' f cdv))
        (fun fl s' => LeaveK h₀ L m g (fun r s'' => (∀ tl, News h₀ L s''.heap tl → News h₀ L s''.heap (tl ++ news)) → (∀ tl, News g L' s''.heap tl → ∀ q ∈ tl, ∀ p ∈ news, p.1 ≠ q.1) → R r s'') (match fl with | .ret v => v | _ => .none) s')
        (fun e s' => wpAny (model prog w) (A.deeper (envOfC qual scope L' f cdv)) (leaving (envOfC qual scope L' f cdv) e) (fun _ s'' => R (.error e) s'') (fun e' s'' => R (.error e') s'') s')
        { s with heap := h₁, toks := tk })
    (hco : scope.isCoroutine = false) (hgen : scope.isGenerator = false) (hk : scope.kind = .function) : codeAny (model prog w) A (.call (.ref f) args) R s := by
  have st : ∀ b o, h₀.get? b = some o → s.heap.get? b = some o := F.keep
  refine codeAny_call_function hroom ((X₀.keeps F.keep) _ _ ho) rfl hco hgen rfl (codeRec_of (X₀.keeps F.keep) hcd) (hbind _ _ _ _ ?_)
  refine wpAny_newFunctionEnv_cells hk (kindsX hkind _) fun env' he s' x => ?_
  subst he
  refine ⟨((T.nolimit).keeps F.keep).keeps x.toInCall.keep, codeAny_func ?_⟩
  obtain ⟨h₁, tk, rfl, _⟩ := x.done
  have hk₁ := x.toInCall.keep
  obtain ⟨cells, NC, Y⟩ := Cl.news (h₀ := s.heap) (Nat.le_refl _) fun n c hm => ⟨x.cell n c (lookup_of_mem_nodup (cellsFrom_names scope.names 0 (s.heap.objs.size + 1) [] [] rfl ▸ hnd) hm), x.above n c hm⟩
  refine wpAny_mono (h s.heap s.heap.objs.size h₁ tk cells F ⟨x.toInCall.ns, fun b o e => hk₁ b o e, Nat.le_refl _⟩ (by rw [List.append_nil]; exact NC) Y ⟨hA, (pushX B F hf hke).stays, (pushX B F hf hke).frames⟩ (X₀.keeps F.keep) (T.keeps F.keep)) (fun fl s' hl => ?_) fun _ _ y => y
  obtain ⟨L', m', news', F', N', k⟩ := hl
  obtain ⟨oL, es, ep, hL, hLd, hLk, hLf⟩ := F.ns
  have kk : ∀ tl, News h₀ L s'.heap tl → News h₀ L s'.heap (tl ++ news) := by
    intro tl Nt q hq
    rcases List.mem_append.mp hq with hq | hq
    · exact Nt q hq
    · exact ⟨F'.keep _ _ (N q hq).1, (N q hq).2⟩
  have lt : ∀ tl, News s.heap s.heap.objs.size s'.heap tl → ∀ q ∈ tl, ∀ p ∈ news, p.1 ≠ q.1 := by
    intro tl Nt q hq p hp
    have h1 := (Nt q hq).2.2
    intro e
    rw [← e, (N p hp).1] at h1
    cases h1
  refine k ⟨⟨oL, es, ep, F'.keep L oL hL, hLd, hLk, hLf⟩, fun b o e => F'.keep b o (st b o e), F.above⟩ (fun p hp => ⟨(N' p hp).1, fun q => ?_, ?_⟩) kk lt
  · have := (N' p hp).2.2; rw [q, hL] at this; cases this
  · cases q : h₀.get? p.1 with
    | none => rfl
    | some o => have := (N' p hp).2.2; rw [st _ _ q] at this; cases this
section
variable {prog : Program} {w : World} {A : Around} {E : Value → Shared → Prop} {s : Shared} {h₀ : Heap} {L : Addr} {m : Str → Option Value} {news : List (Addr × Obj)}
theorem sliceApplied_upto {sl : Addr} {b n : Nat} {u : Tok} {Q : Int × Int × Nat → Shared → Prop} (hs : s.heap.IsSliceOf sl .none (.int (b : Int) u) .none) (hb : b ≤ n) (h : Q (0, 1, b) s) :
    wpAny (model prog w) A (Builtin.Slice.sliceApplied (.ref sl) (pure (n : Int))) Q E s := by
  obtain ⟨os, hos, hcs, hds⟩ := id hs
  unfold Builtin.Slice.sliceApplied Builtin.Slice.sliceFields
  refine wpAny_bind (wpAny_bind (wpAny_field hos hds (x := .none) rfl (wpAny_bind (wpAny_field hos hds (x := .int (b : Int) u) rfl (wpAny_bind (wpAny_field hos hds (x := .none) rfl (wpAny_pure ?_)))))))
  refine wpAny_bind (slicePart_none ?_)
  show wpAny _ _ (if ((1 : Int) == 0) = true then _ else _) _ _ s
  rw [if_neg (by decide)]
  refine wpAny_bind (slicePart_none (wpAny_bind (slicePart_int (wpAny_bind (wpAny_pure ?_)))))
  show wpAny _ _ (match Builtin.Slice.sliceAdjust none (some (b : Int)) 1 (n : Int) with | (lo, hi) => pure (lo, (1 : Int), Builtin.Slice.slicePlaces lo hi 1)) _ _ s
  have e1 : Builtin.Slice.sliceAdjust none (some (b : Int)) 1 (n : Int) = (0, (b : Int)) := by
    unfold Builtin.Slice.sliceAdjust
    have h1 : ¬ ((1 : Int) < 0) := by omega
    have h2 : ¬ ((b : Int) < 0) := by omega
    simp only [h1, h2, if_false]
    congr 1
    omega
  have e2 : Builtin.Slice.slicePlaces 0 (b : Int) 1 = b := by
    unfold Builtin.Slice.slicePlaces
    have h1 : (1 : Int) > 0 := by omega
    simp only [h1, if_true, Int.ediv_one]
    split <;> omega
  rw [e1]
  show wpAny _ _ (pure ((0 : Int), (1 : Int), Builtin.Slice.slicePlaces 0 (b : Int) 1)) _ _ s
  rw [e2]
  exact wpAny_pure h

theorem pick_upto (xs : Array Value) (b : Nat) : ((List.range b).filterMap fun (k : Nat) => xs[((0 : Int) + (k : Int) * 1).toNat]?).toArray = (xs.toList.take b).toArray := by
  have e : (fun (k : Nat) => xs[((0 : Int) + (k : Int) * 1).toNat]?) = fun k => xs[0 + k]? := by
    funext k
    have : ((0 : Int) + (k : Int) * 1).toNat = 0 + k := by omega
    rw [this]
  rw [e]
  have := pick_run xs 0 b
  rw [List.filterMap_map] at this
  have e2 : ((fun x => xs[x]?) ∘ fun x => 0 + x) = fun k => xs[0 + k]? := rfl
  rw [e2] at this
  rw [this, List.drop_zero]

theorem getItem_tuple_upto {t sl : Addr} {items : Array Value} {b : Nat} {u : Tok} {Q : Value → Shared → Prop} (ht : IsTup s.heap t items) (hs : s.heap.IsSliceOf sl .none (.int (b : Int) u) .none) (hb : b < items.size)
    (h : Q (.ref s.heap.objs.size) { s with heap := s.heap.push { cls := .type "tuple", data := .seq (items.toList.take b).toArray } })
    (hsz : items.size ≤ sizeLine) : wpAny (model prog w) A (getItem (.ref t) (.ref sl)) Q E s := by
  have hdrop : sizeOk (.seq (items.toList.take b).toArray) := by
    show (items.toList.take b).toArray.size ≤ sizeLine
    rw [List.size_toArray, List.length_take, Array.length_toList]
    omega
  obtain ⟨os, hos, hcs, hds⟩ := id hs
  have hTs : s.TypeIs (.ref sl) "slice" := ⟨os, hos, hcs⟩
  unfold getItem
  try with_reducible refine wpAny_holding ?_
  first | refine wpAny_bind (wpAny_pure ?_) | skip
  refine wpAny_bind (wpAny_sequenceKey ht.typeIs (by decide) ?_)
  refine wpAny_bind (wpAny_callSpecial?_slot (name := Str.ofString "__getitem__") ht.typeIs slot_tuple_getitem
    (wpAny_call_entry slot_tuple_getitem ht.typeIs entry_tuple_getitem ?_ (args_tuple_getitem _ _)))
  show wpAny _ _ (Builtin.Tuple.tupleItemsOf (.ref t) >>= _) _ _ s
  refine wpAny_bind (tupleItemsOf_ ht ?_)
  refine wpAny_bind (wpAny_typeOf hTs ?_)
  rw [if_pos (by decide)]
  refine wpAny_bind (sliceApplied_upto hs (Nat.le_of_lt hb) ?_)
  have hno : ¬ (((0 : Int) == 0 && (1 : Int) == 1 && b == items.size) = true) := by
    have : (b == items.size) = false := by rw [beq_eq_false_iff_ne]; omega
    rw [this]; simp
  show wpAny _ _ (if ((0 : Int) == 0 && (1 : Int) == 1 && b == items.size) = true then _ else _) _ _ s
  rw [if_neg hno, pick_upto items b]
  first
    | exact wpAny_bind (m := Builtin.Tuple.tupleExact _) (wpAny_newObj_type (wpAny_pure ⟨_, rfl, wpAny_pure h⟩) hdrop)
    | exact wpAny_bind (m := Builtin.Tuple.tupleExact _) (wpAny_newObj_type (wpAny_bind (wpAny_pure (wpAny_pure ⟨_, rfl, wpAny_pure h⟩))) hdrop)
    | exact wpAny_bind (wpAny_bind (m := Builtin.Tuple.tupleExact _) (wpAny_newObj_type (wpAny_pure (wpAny_pure ⟨_, rfl, wpAny_pure h⟩)) hdrop))
    | exact wpAny_bind (wpAny_bind (m := Builtin.Tuple.tupleExact _) (wpAny_newObj_type (wpAny_pure ⟨_, rfl, wpAny_pure h⟩) hdrop))

theorem slice_tuple_upto {value slice : Expr} {t : Addr} {items : Array Value} {ns : List Int} {b : Int} {u : Tok} {Q : Value → Shared → Prop}
    (F : Fr h₀ L s.heap m) (N : News h₀ L s.heap news) (ht : IsTup s.heap t items) (hi : IntsAre items.toList ns) (h1 : 0 ≤ b) (hb : b < ns.length)
    (h : ∀ D ws h', Fr h₀ L h' m → News h₀ L h' ((D, { cls := .type "tuple", data := .seq (List.toArray ws) }) :: news) → (∀ p ∈ news, p.1 < D) → IntsAre ws (ns.take b.toNat) → Q (.ref D) { s with heap := h' })
    (hs : subscripted slice false (.ref t) (.ref s.heap.objs.size) = operate [.ref s.heap.objs.size, .ref t] (getItem (.ref t) (.ref s.heap.objs.size)))
    (hg : ∀ r, letTemporaryGo value (.ref t) r = pure ())
    (hsz : ns.length ≤ sizeLine) :
    wpAny (model prog w) A (subscriptTail value slice (.ref t) (.ref s.heap.objs.size)) Q E { s with heap := s.heap.push { cls := .type "slice", data := .fields #[.none, .int b u, .none] } } := by
  obtain ⟨k, rfl⟩ := Int.eq_ofNat_of_zero_le h1
  have hlen : items.size = ns.length := by rw [← hi.length, Array.length_toList]
  have ht' : IsTup (s.heap.push { cls := .type "slice", data := .fields #[.none, .int (k : Int) u, .none] }) t items := ht.keeps fun _ _ e => Heap.get?_push_of_some _ e
  refine subscriptTail_ops (s := { s with heap := s.heap.push { cls := .type "slice", data := .fields #[.none, .int (k : Int) u, .none] } }) ht'.typeIs slot_tuple_getitem.lookup
    (getItem_tuple_upto ht' (Heap.IsSliceOf.new ..) (by omega) ?_ (by omega)) hs hg
  have N1 := News.push (F.push { cls := .type "slice", data := .fields #[.none, .int (k : Int) u, .none] }) (N.grown fun _ _ e => Heap.get?_push_of_some _ e) { cls := .type "tuple", data := .seq (items.toList.take k).toArray }
  rw [Heap.size_push] at N1
  show Q (.ref (s.heap.push _).objs.size) _
  rw [Heap.size_push]
  exact h _ _ _ ((F.push _).push _) N1 (fun p hp => Nat.lt_succ_of_lt (Heap.lt_size (N p hp).1)) (hi.take _)
end

section
variable {prog : Program} {w : World} {A : Around} {E : Value → Shared → Prop} {s : Shared} {env : Env} {h₀ : Heap} {x : Str} {body : List Stmt} {Q : Flow → Shared → Prop}
/-- a loop that stores one name, an int: its values are acc 0 .. acc n, turn by turn; the ledger stays -/
theorem loop_acc {I : Addr} {fp wr : List Addr} {n : Nat} {P : Nat → Value → Prop} {St : Nat → Heap → Prop} {m₀ : Str → Option Value} {news : List (Addr × Obj)} {y : Str} (vals acc : Nat → Int)
    (W : Walks prog w A I fp wr n P St) (hP : ∀ i v, i < n → P i v → ∃ t, v = .int (vals i) t) (hLf : env.locals ∉ fp) (hwr : ∀ b ∈ wr, h₀.get? b = none) (hnw : ∀ p ∈ news, p.1 ∉ wr) (hst : St 0 s.heap)
    (F : Fr h₀ env.locals s.heap m₀) (N : News h₀ env.locals s.heap news) (hy : ∃ t, m₀ y = some (.int (acc 0) t)) (hyx : y ≠ x)
    (turn : ∀ (i : Nat) (t ta : Tok) (s₁ : Shared) (nw : List (Addr × Obj)) (Q' : Flow → Shared → Prop), i < n → Fr h₀ env.locals s₁.heap (fun z => if z = x then some (.int (vals i) t) else if z = y then some (.int (acc i) ta) else m₀ z) → News h₀ env.locals s₁.heap nw →
      (∀ (v : Int) (t' : Tok) (h' : Heap) (tk' : Nat), Fr h₀ env.locals h' (fun z => if z = y then some (.int v t') else if z = x then some (.int (vals i) t) else if z = y then some (.int (acc i) ta) else m₀ z) → News h₀ env.locals h' nw → v = acc (i + 1) → Q' .next { s₁ with heap := h', toks := tk' }) →
      wpAny (model prog w) A (execs body env) Q' E s₁)
    (done : ∀ (u : Str → Option Value) (t : Tok) (h : Heap) (tk : Nat), Fr h₀ env.locals h (fun z => if z = x then u z else if z = y then some (.int (acc n) t) else m₀ z) → News h₀ env.locals h news → Q .next { s with heap := h, toks := tk }) :
    LoopAtU prog w A h₀ env x body Q E (.ref I) s := by
  refine ⟨I, fp, wr, n, P, St, m₀, news, fun i m₁ nx => nx = news ∧ (∃ t, m₁ y = some (.int (acc i) t)) ∧ ∀ z, z ≠ x → z ≠ y → m₁ z = m₀ z, rfl, W, hLf, hwr, hnw, hst, F, N, ⟨rfl, hy, fun _ _ _ => rfl⟩, ?_, ?_⟩
  · rintro i v m₁ news₁ s₁ own hin hv ⟨rfl, ⟨ta, ha⟩, hm⟩ hoff _ _ _ _ F₁ N₁
    obtain ⟨t, rfl⟩ := hP i v hin hv
    have e : (fun z => if z = x then some (Value.int (vals i) t) else m₁ z) = fun z => if z = x then some (.int (vals i) t) else if z = y then some (.int (acc i) ta) else m₀ z := by
      funext z
      by_cases h1 : z = x
      · rw [if_pos h1, if_pos h1]
      · rw [if_neg h1, if_neg h1]
        by_cases h2 : z = y
        · rw [if_pos h2, h2, ha]
        · rw [if_neg h2, hm z h1 h2]
    rw [e] at F₁
    refine turn i t ta s₁ (own ++ news₁) _ hin F₁ N₁ fun v t' h' tk' F' N' h1 => ⟨rfl, h', tk', _, news₁, rfl, F', N', hoff, rfl, ⟨t', (if_pos rfl).trans (by rw [h1])⟩, fun z h1 h2 => (if_neg h2).trans ((if_neg h1).trans (if_neg h2))⟩
  · rintro h' tk m' news' F' N' _ ⟨rfl, ⟨t, ht⟩, hm⟩
    have e : m' = fun z => if z = x then m' z else if z = y then some (.int (acc n) t) else m₀ z := by
      funext z
      by_cases h1 : z = x
      · rw [if_pos h1]
      · rw [if_neg h1]
        by_cases h2 : z = y
        · rw [if_pos h2, h2, ht]
        · rw [if_neg h2, hm z h1 h2]
    rw [e] at F'
    exact done m' t h' tk F' N'

theorem tup_acc {l : Addr} {vs : List Value} {ns : List Int} {nn : Nat} {m₀ : Str → Option Value} {news : List (Addr × Obj)} {y : Str} (acc : Nat → Int)
    (hh : A.handled = none) (hl : (l, ({ cls := .type "tuple", data := .seq vs.toArray nn } : Obj)) ∈ news) (hi : IntsAre vs ns)
    (F : Fr h₀ env.locals s.heap m₀) (N : News h₀ env.locals s.heap news) (hy : ∃ t, m₀ y = some (.int (acc 0) t)) (hyx : y ≠ x)
    (turn : ∀ (i : Nat) (t ta : Tok) (s₁ : Shared) (nw : List (Addr × Obj)) (Q' : Flow → Shared → Prop), i < ns.length → Fr h₀ env.locals s₁.heap (fun z => if z = x then some (.int (ns.getD i 0) t) else if z = y then some (.int (acc i) ta) else m₀ z) → News h₀ env.locals s₁.heap nw →
      (∀ (v : Int) (t' : Tok) (h' : Heap) (tk' : Nat), Fr h₀ env.locals h' (fun z => if z = y then some (.int v t') else if z = x then some (.int (ns.getD i 0) t) else if z = y then some (.int (acc i) ta) else m₀ z) → News h₀ env.locals h' nw → v = acc (i + 1) → Q' .next { s₁ with heap := h', toks := tk' }) →
      wpAny (model prog w) A (execs body env) Q' E s₁)
    (done : ∀ (u : Str → Option Value) (t : Tok) (h : Heap) (tk : Nat), Fr h₀ env.locals h (fun z => if z = x then u z else if z = y then some (.int (acc ns.length) t) else m₀ z) → News h₀ env.locals h news → Q .next { s with heap := h, toks := tk }) :
    wpAny (model prog w) A (pyIter (.ref l)) (fun it s₂ => LoopAtU prog w A h₀ env x body Q E it s₂) E s := by
  have hol := (N _ hl).1
  have hls : s.heap.IsTuple l vs.toArray := ⟨_, hol, rfl, nn, rfl⟩
  have hne : l ≠ s.heap.objs.size := Nat.ne_of_lt (Heap.lt_size hol)
  refine wpAny_pyIter_tuple hls ?_
  have W := Walks.tuple (prog := prog) (w := w) hh s.heap.objs.size l hne vs.toArray
  have hlen : vs.toArray.size = ns.length := by simp [hi.length]
  rw [hlen] at W
  refine loop_acc (y := y) (fun i => ns.getD i 0) acc W ?_ ?_ ?_ ?_ ⟨⟨_, Heap.get?_push_size _ rfl, rfl, rfl⟩, hls.push _⟩ (F.push _) (fun p hp => ⟨Heap.get?_push_of_some _ (N p hp).1, (N p hp).2⟩) hy hyx turn done
  · intro i v hin hv
    obtain ⟨t, hx⟩ := hi.get i ns[i] (by simp [hin])
    refine ⟨t, ?_⟩
    have hv' : vs[i]? = some v := by simpa using hv
    rw [hx] at hv'
    have := (Option.some.inj hv').symm
    rw [this]
    simp [hin]
  · intro hm
    rcases List.mem_cons.mp hm with e | hm
    · exact absurd F.ns.lt (e ▸ Nat.lt_irrefl _)
    · exact (N _ hl).2.1 (List.mem_singleton.mp hm).symm
  · intro b hb
    rw [List.mem_singleton.mp hb]
    exact next_is_new F
  · intro p hp hI
    exact absurd (Heap.lt_size (N p hp).1) ((List.mem_singleton.mp hI) ▸ Nat.lt_irrefl _)

theorem range_acc {r : Addr} {a₀ b₀ : Int} {t₀ u₀ v₀ : Tok} {n : Nat} {m₀ : Str → Option Value} {news : List (Addr × Obj)} {y : Str} (acc : Nat → Int)
    (hh : A.handled = none) (hr : IsRange s.heap r a₀ b₀ 1 t₀ u₀ v₀) (hsmall : Builtin.Range.small a₀ b₀ 1 = true) (hn : Builtin.Range.rangeSize a₀ b₀ 1 = (n : Int))
    (F : Fr h₀ env.locals s.heap m₀) (N : News h₀ env.locals s.heap news) (hy : ∃ t, m₀ y = some (.int (acc 0) t)) (hyx : y ≠ x)
    (turn : ∀ (i : Nat) (t ta : Tok) (s₁ : Shared) (nw : List (Addr × Obj)) (Q' : Flow → Shared → Prop), i < n → Fr h₀ env.locals s₁.heap (fun z => if z = x then some (.int (a₀ + i) t) else if z = y then some (.int (acc i) ta) else m₀ z) → News h₀ env.locals s₁.heap nw →
      (∀ (v : Int) (t' : Tok) (h' : Heap) (tk' : Nat), Fr h₀ env.locals h' (fun z => if z = y then some (.int v t') else if z = x then some (.int (a₀ + i) t) else if z = y then some (.int (acc i) ta) else m₀ z) → News h₀ env.locals h' nw → v = acc (i + 1) → Q' .next { s₁ with heap := h', toks := tk' }) →
      wpAny (model prog w) A (execs body env) Q' E s₁)
    (done : ∀ (u : Str → Option Value) (t : Tok) (h : Heap) (tk : Nat), Fr h₀ env.locals h (fun z => if z = x then u z else if z = y then some (.int (acc n) t) else m₀ z) → News h₀ env.locals h news → Q .next { s with heap := h, toks := tk }) :
    wpAny (model prog w) A (pyIter (.ref r)) (fun it s₂ => LoopAtU prog w A h₀ env x body Q E it s₂) E s := by
  refine wpAny_pyIter_range hr hsmall ?_
  refine loop_acc (y := y) (fun i => a₀ + (i : Int)) acc (Walks.range (prog := prog) (w := w) hh s.heap.objs.size a₀ 1 n) ?_ ?_ ?_ ?_ (by show IsRangeIter _ _ _ _ _; rw [hn]; simpa using Heap.get?_push_size _ rfl) (F.push _) (fun p hp => ⟨Heap.get?_push_of_some _ (N p hp).1, (N p hp).2⟩) hy hyx turn done
  · rintro i v _ ⟨t, rfl⟩
    exact ⟨t, by rw [Int.mul_one]⟩
  · intro hm
    exact absurd F.ns.lt ((List.mem_singleton.mp hm) ▸ Nat.lt_irrefl _)
  · intro b hb
    rw [List.mem_singleton.mp hb]
    exact next_is_new F
  · intro p hp hI
    exact absurd (Heap.lt_size (N p hp).1) ((List.mem_singleton.mp hI) ▸ Nat.lt_irrefl _)

theorem range_accV {r : Addr} {a₀ b₀ : Int} {t₀ u₀ v₀ : Tok} {n : Nat} {m₀ : Str → Option Value} {news : List (Addr × Obj)} {y : Str} (acc : Nat → Int)
    (hh : A.handled = none) (hr : IsRange s.heap r a₀ b₀ 1 t₀ u₀ v₀) (hsmall : Builtin.Range.small a₀ b₀ 1 = true) (hn : Builtin.Range.rangeSize a₀ b₀ 1 = (n : Int))
    (F : Fr h₀ env.locals s.heap m₀) (N : News h₀ env.locals s.heap news) (hy : ∃ t, m₀ y = some (.int (acc 0) t)) (hyx : y ≠ x)
    (turn : ∀ (i : Nat) (t ta : Tok) (s₁ : Shared) (nw : List (Addr × Obj)) (Q' : Flow → Shared → Prop), i < n → Fr h₀ env.locals s₁.heap (fun z => if z = x then some (.int (a₀ + i) t) else if z = y then some (.int (acc i) ta) else m₀ z) → News h₀ env.locals s₁.heap nw →
      (∀ (v : Int) (t' : Tok) (h' : Heap) (tk' : Nat), Fr h₀ env.locals h' (fun z => if z = y then some (.int v t') else if z = x then some (.int (a₀ + i) t) else if z = y then some (.int (acc i) ta) else m₀ z) → News h₀ env.locals h' nw → v = acc (i + 1) → Q' .next { s₁ with heap := h', toks := tk' }) →
      wpAny (model prog w) A (execs body env) Q' E s₁)
    (done : ∀ (u : Str → Option Value) (t : Tok) (h : Heap) (tk : Nat), Fr h₀ env.locals h (fun z => if z = x then u z else if z = y then some (.int (acc n) t) else m₀ z) → News h₀ env.locals h news → Q .next { s with heap := h, toks := tk }) :
    wpAny (model prog w) A (pyIter (.ref r)) (fun it s₂ => LoopAtV prog w A h₀ env x body Q E it s₂) E s :=
  wpAny_mono (range_acc acc hh hr hsmall hn F N hy hyx turn done) (fun _ _ h => h.toV) fun _ _ h => h
end
-- part MR
theorem ln_MR_1 : True := by
  k_with_none
  (k_with "execs cons" => (k_here; (try dsimp only); k_gentoks))
  (k_with "execs nil" => (k_here; (try dsimp only); k_gentoks))
  (k_with "call ref" => (k_here; k_dflt (refine' con_bool (c_isleap _ _) ?k1Zq ?k2Zq ?k3Zq ?k4Zq ?k5Zq ?kKZq ?kdZq ?kuZq ?_; (case k1Zq => k_asm); (case k2Zq => k_asm); (case k3Zq => k_asm); (case k4Zq => k_asm); (case k5Zq => k_asm); (case kKZq => first | exact rfl | assumption); (case kdZq => first | exact room_of (by assumption) (by rfl) | ktr_room); (case kuZq => first | exact units_of (by assumption) (by rfl) | ktr_units)); intro h9 tk9 F9 N9; (try dsimp only); (try k_fold); walk_say "USE c_isleap"))
  (k_with "call ref" => (k_here; k_dflt (refine' con_int (c_midnight _ _ ?p0Zq) ?k1Zq ?k2Zq ?k3Zq ?k4Zq ?k5Zq ?kKZq ?kdZq ?kuZq ?_; (case p0Zq => first | assumption | omega | l_fact | (simp_all; done) | (simp_all; omega)); (case k1Zq => k_asm); (case k2Zq => k_asm); (case k3Zq => k_asm); (case k4Zq => k_asm); (case k5Zq => k_asm); (case kKZq => first | exact rfl | assumption); (case kdZq => first | exact room_of (by assumption) (by rfl) | ktr_room); (case kuZq => first | exact units_of (by assumption) (by rfl) | ktr_units)); intro t9 h9 tk9 F9 N9; (try dsimp only); (try k_fold); walk_say "USE c_midnight"))
  (k_with "call ref" => (k_here; k_dflt (refine' con_int (c_jwday _ _) ?k1Zq ?k2Zq ?k3Zq ?k4Zq ?k5Zq ?kKZq ?kdZq ?kuZq ?_; (case k1Zq => k_asm); (case k2Zq => k_asm); (case k3Zq => k_asm); (case k4Zq => k_asm); (case k5Zq => k_asm); (case kKZq => first | exact rfl | assumption); (case kdZq => first | exact room_of (by assumption) (by rfl) | ktr_room); (case kuZq => first | exact units_of (by assumption) (by rfl) | ktr_units)); intro t9 h9 tk9 F9 N9; (try dsimp only); (try k_fold); walk_say "USE c_jwday"))
  (k_with "call ref" => (k_here; k_dflt (refine' con_bool (c_leapJ _ _) ?k1Zq ?k2Zq ?k3Zq ?k4Zq ?k5Zq ?kKZq ?kdZq ?kuZq ?_; (case k1Zq => k_asm); (case k2Zq => k_asm); (case k3Zq => k_asm); (case k4Zq => k_asm); (case k5Zq => k_asm); (case kKZq => first | exact rfl | assumption); (case kdZq => first | exact room_of (by assumption) (by rfl) | ktr_room); (case kuZq => first | exact units_of (by assumption) (by rfl) | ktr_units)); intro h9 tk9 F9 N9; (try dsimp only); (try k_fold); walk_say "USE c_leapJ"))
  (k_with "call ref" => (k_here; k_dflt (refine' con_bool (c_leapA _ _ ?p0Zq) ?k1Zq ?k2Zq ?k3Zq ?k4Zq ?k5Zq ?kKZq ?kdZq ?kuZq ?_; (case p0Zq => first | assumption | omega | l_fact | (simp_all; done) | (simp_all; omega)); (case k1Zq => k_asm); (case k2Zq => k_asm); (case k3Zq => k_asm); (case k4Zq => k_asm); (case k5Zq => k_asm); (case kKZq => first | exact rfl | assumption); (case kdZq => first | exact room_of (by assumption) (by rfl) | ktr_room); (case kuZq => first | exact units_of (by assumption) (by rfl) | ktr_units)); intro h9 tk9 F9 N9; (try dsimp only); (try k_fold); walk_say "USE c_leapA"))
  (k_with "call ref" => (k_here; k_dflt (refine' con_bool (c_leapC _ _) ?k1Zq ?k2Zq ?k3Zq ?k4Zq ?k5Zq ?kKZq ?kdZq ?kuZq ?_; (case k1Zq => k_asm); (case k2Zq => k_asm); (case k3Zq => k_asm); (case k4Zq => k_asm); (case k5Zq => k_asm); (case kKZq => first | exact rfl | assumption); (case kdZq => first | exact room_of (by assumption) (by rfl) | ktr_room); (case kuZq => first | exact units_of (by assumption) (by rfl) | ktr_units)); intro h9 tk9 F9 N9; (try dsimp only); (try k_fold); walk_say "USE c_leapC"))
  (k_with "call ref" => (k_here; k_dflt (refine' con_bool (c_leapH _ _) ?k1Zq ?k2Zq ?k3Zq ?k4Zq ?k5Zq ?kKZq ?kdZq ?kuZq ?_; (case k1Zq => k_asm); (case k2Zq => k_asm); (case k3Zq => k_asm); (case k4Zq => k_asm); (case k5Zq => k_asm); (case kKZq => first | exact rfl | assumption); (case kdZq => first | exact room_of (by assumption) (by rfl) | ktr_room); (case kuZq => first | exact units_of (by assumption) (by rfl) | ktr_units)); intro h9 tk9 F9 N9; (try dsimp only); (try k_fold); walk_say "USE c_leapH"))
  (k_with "call ref" => (k_here; k_dflt (refine' con_int (c_delay1 _ _) ?k1Zq ?k2Zq ?k3Zq ?k4Zq ?k5Zq ?kKZq ?kdZq ?kuZq ?_; (case k1Zq => k_asm); (case k2Zq => k_asm); (case k3Zq => k_asm); (case k4Zq => k_asm); (case k5Zq => k_asm); (case kKZq => first | exact rfl | assumption); (case kdZq => first | exact room_of (by assumption) (by rfl) | ktr_room); (case kuZq => first | exact units_of (by assumption) (by rfl) | ktr_units)); intro t9 h9 tk9 F9 N9; (try dsimp only); (try k_fold); walk_say "USE c_delay1"))
  (k_with "call ref" => (k_here; k_dflt (refine' con_bool (c_leapI _ _) ?k1Zq ?k2Zq ?k3Zq ?k4Zq ?k5Zq ?kKZq ?kdZq ?kuZq ?_; (case k1Zq => k_asm); (case k2Zq => k_asm); (case k3Zq => k_asm); (case k4Zq => k_asm); (case k5Zq => k_asm); (case kKZq => first | exact rfl | assumption); (case kdZq => first | exact room_of (by assumption) (by rfl) | ktr_room); (case kuZq => first | exact units_of (by assumption) (by rfl) | ktr_units)); intro h9 tk9 F9 N9; (try dsimp only); (try k_fold); walk_say "USE c_leapI"))
  (k_with "call ref" => (k_here; k_dflt (refine' con_int (c_trunc4 _ _ _ ?p0Zq) ?k1Zq ?k2Zq ?k3Zq ?k4Zq ?k5Zq ?kKZq ?kdZq ?kuZq ?_; (case p0Zq => first | assumption | omega | l_fact | (simp_all; done) | (simp_all; omega)); (case k1Zq => k_asm); (case k2Zq => k_asm); (case k3Zq => k_asm); (case k4Zq => k_asm); (case k5Zq => k_asm); (case kKZq => first | exact rfl | assumption); (case kdZq => first | exact room_of (by assumption) (by rfl) | ktr_room); (case kuZq => first | exact units_of (by assumption) (by rfl) | ktr_units)); intro t9 h9 tk9 F9 N9; (try dsimp only); (try k_fold); walk_say "USE c_trunc4"))
  (k_with "call ref" => (k_here; k_dflt (refine' con_int (c_jdC _ _ _ _ _) ?k1Zq ?k2Zq ?k3Zq ?k4Zq ?k5Zq ?kKZq ?kdZq ?kuZq ?_; (case k1Zq => k_asm); (case k2Zq => k_asm); (case k3Zq => k_asm); (case k4Zq => k_asm); (case k5Zq => k_asm); (case kKZq => first | exact rfl | assumption); (case kdZq => first | exact room_of (by assumption) (by rfl) | ktr_room); (case kuZq => first | exact units_of (by assumption) (by rfl) | ktr_units)); intro t9 h9 tk9 F9 N9; (try dsimp only); (try k_fold); walk_say "USE c_jdC"))
  (k_with "call ref" => (k_here; k_dflt (refine' con_int (c_jdI _ _ _ _ _) ?k1Zq ?k2Zq ?k3Zq ?k4Zq ?k5Zq ?kKZq ?kdZq ?kuZq ?_; (case k1Zq => k_asm); (case k2Zq => k_asm); (case k3Zq => k_asm); (case k4Zq => k_asm); (case k5Zq => k_asm); (case kKZq => first | exact rfl | assumption); (case kdZq => first | exact room_of (by assumption) (by rfl) | ktr_room); (case kuZq => first | exact units_of (by assumption) (by rfl) | ktr_units)); intro t9 h9 tk9 F9 N9; (try dsimp only); (try k_fold); walk_say "USE c_jdI"))
  (k_with "call ref" => (k_here; k_dflt (refine' con_bool (c_lawlong _ _) ?k1Zq ?k2Zq ?k3Zq ?k4Zq ?k5Zq ?kKZq ?kdZq ?kuZq ?_; (case k1Zq => k_asm); (case k2Zq => k_asm); (case k3Zq => k_asm); (case k4Zq => k_asm); (case k5Zq => k_asm); (case kKZq => first | exact rfl | assumption); (case kdZq => first | exact room_of (by assumption) (by rfl) | ktr_room); (case kuZq => first | exact units_of (by assumption) (by rfl) | ktr_units)); intro h9 tk9 F9 N9; (try dsimp only); (try k_fold); walk_say "USE c_lawlong"))
  (k_with "subscriptTail Name Slice ref ref" => (k_here; k_dflt (refine' slice_tuple_upto ?FZq ?NZq ?tZq ?iZq ?aZq ?bZq ?_ ?sZq ?gZq ?zZq; (case FZq => k_asm); (case NZq => k_asm); (case tZq => exact Fr.tup (by assumption) (by assumption)); (case iZq => assumption); (case aZq => omega); (case bZq => (simp only [List.length_cons, List.length_nil]; omega)); (case sZq => with_unfolding_all rfl); (case gZq => intro _; with_unfolding_all rfl); (case zZq => decide); k_whole; intro D ws h' F' N' l1 i1; (try k_lt l1); walk_say "TUPLE SLICE")))
  trivial
abbrev md : List Int := [0, 31, 28, 31, 30, 31, 30, 31, 31, 30, 31, 30, 31]
def mrF (y m : Int) : Int := Int.fmod (365 * (y - 1) + (y - 1).fdiv 4 - (y - 1).fdiv 100 + (y - 1).fdiv 400 + (md.take m.toNat).sum + (if 2 < m ∧ leapG y = true then 1 else 0)) 7
theorem take_sum (l : List Int) (i : Nat) : (l.take (i + 1)).sum = (l.take i).sum + l.getD i 0 := by
  induction l generalizing i with
  | nil => simp
  | cons a r ih =>
    cases i with
    | zero => simp
    | succ i => rw [List.take_succ_cons, List.sum_cons, ih, List.take_succ_cons, List.sum_cons, List.getD_cons_succ]; omega
theorem take_acc (F : Int) (l : List Int) (i : Nat) : F + (l.take i).sum + l.getD i 0 = F + (l.take (i + 1)).sum := by rw [take_sum]; omega
theorem acc_zero (F : Int) (l : List Int) (t : Tok) : some (Value.int (F + (l.take 0).sum) t) = some (Value.int F t) := by rw [List.take_zero, List.sum_nil, Int.add_zero]
def mrX (y m : Int) : Int := 365 * (y - 1) + (y - 1).fdiv 4 - (y - 1).fdiv 100 + (y - 1).fdiv 400 + ((md.take m.toNat).take (md.take m.toNat).length).sum
theorem mrF_y {y m : Int} (h1 : 2 < m) (h2 : leapG y = true) : Int.fmod (mrX y m + 1) 7 = mrF y m := by
  unfold mrF mrX; rw [if_pos ⟨h1, h2⟩, List.take_length]
theorem mrF_n1 {y m : Int} (h1 : ¬ 2 < m) : Int.fmod (mrX y m) 7 = mrF y m := by
  unfold mrF mrX; rw [if_neg (fun h => h1 h.1), List.take_length, Int.add_zero]
theorem mrF_n2 {y m : Int} (h2 : leapG y = false) : Int.fmod (mrX y m) 7 = mrF y m := by
  unfold mrF mrX; rw [if_neg (fun h => by rw [h2] at h; cases h.2), List.take_length, Int.add_zero]
def mrL (y m : Int) : Int := md.getD m.toNat 0 + (if m = 2 ∧ leapG y = true then 1 else 0)
theorem mrL_y {y m : Int} (h1 : m = 2) (h2 : leapG y = true) : md.getD m.toNat 0 + 1 = mrL y m := by
  unfold mrL; rw [if_pos ⟨h1, h2⟩]
theorem mrL_n1 {y m : Int} (h1 : m ≠ 2) : md.getD m.toNat 0 + 0 = mrL y m := by
  unfold mrL; rw [if_neg (fun h => h1 h.1)]
theorem mrL_n2 {y m : Int} (h2 : leapG y = false) : md.getD m.toNat 0 + 0 = mrL y m := by
  unfold mrL; rw [if_neg (fun h => by rw [h2] at h; cases h.2)]
set_option maxHeartbeats 0 in
theorem c_mr (y m : Int) (ty tm : Tok) (h0 : 1 ≤ m ∧ m ≤ 12) : Con 4 29 [.int y ty, .int m tm] (PT (mrF y m) (mrL y m)) := by
  unfold Con
  k_fill
  w_on
  intros; rename_i hret
  refine wpAny_call ?_
  k_dflt (refine' code_p ?k1 ?k2 ?k3 ?k4 ?k5 ?kA ?kF ?kK ?k6 ?k7 ?k8 ?k9 ?kB ?_ ?c2 ?c3 ?c4 ?c5; (case kA => exact rfl); (case kF => exact rfl); (case kK => assumption); (case k1 => k_asm); (case k2 => k_asm); (case k3 => k_asm); (case k4 => k_asm); (case k5 => k_asm); (case k6 => k_is); (case k7 => k_is); (case k8 => first | exact Nat.lt_of_le_of_lt (Nat.le_add_right _ _) (by assumption) | ktr_room); (case k9 => first | exact BindsTo.of_eq rfl | exact binds_K (by k_in) rfl (by k_is) rfl rfl rfl); (case c5 => decide); (case kB => exact locs rfl); (case c2 => exact rfl); (case c3 => exact rfl); (case c4 => exact rfl); k_whole; intro g' L' h' FG' F' N' B' X' T'; (try dsimp only); (try k_lift B'); (try k_fold))
  have tup15 : ∃ items, IsTup g' 15 items ∧ IntsAre items.toList [0, 31, 28, 31, 30, 31, 30, 31, 31, 30, 31, 30, 31] := ⟨_, ⟨_, X' 15 _ (by k_is), rfl, _, rfl⟩, by repeat constructor⟩
  obtain ⟨it15, hit15, hin15⟩ := tup15
  k_steps

  k_dflt (refine' tup_acc (y := Str.ofString "first") (fun i => 365 * (y - 1) + (y - 1).fdiv 4 - (y - 1).fdiv 100 + (y - 1).fdiv 400 + ((md.take m.toNat).take i).sum) ?hh ?hl ?hi ?F ?N ?hy ?hyx ?turn ?done; (case hh => exact rfl); (case F => k_asm); (case N => k_asm); (case hl => k_mem); (case hi => assumption); (case hyx => decide))
  case hy => (refine' ⟨_, ?hz⟩; case hz => exact (acc_zero _ _ _).symm)
  case turn =>
    intro i t ta s₁ nw Q' hi F N K
    k_steps
    all_goals (k_dflt (refine' K _ _ _ _ ?kF ?kN ?k1; (case kF => k_asm); (case kN => k_asm); (case k1 => exact take_acc _ _ _)))
  case done =>
    intro u t h tk F N
    (try k_fold)
    k_steps
    all_goals (refine' end_tup hret (by k_asm) (by assumption) (by assumption) (by k_asm) (by k_asm) ?_ ?_)
    all_goals first | exact mrF_y (by assumption) (by assumption) | exact mrF_n1 (by assumption) | exact mrF_n2 (by assumption) | exact mrL_y (by assumption) (by assumption) | exact mrL_n1 (by assumption) | exact mrL_n2 (by assumption)
-- part N0
def fkN (y m w : Int) : Int := 1 + Int.fmod (w - mrF y m) 7
def lastN (y m w : Int) : Int := if fkN y m w ≤ 3 ∧ fkN y m w + 28 ≤ mrL y m then fkN y m w + 28 else fkN y m w + 21
theorem fkN_b (y m w : Int) : 1 ≤ fkN y m w ∧ fkN y m w ≤ 7 := by unfold fkN; rw [Int.fmod_eq_emod_of_nonneg _ (by decide)]; omega
theorem lastN_v (y m w : Int) : (¬ (fkN y m w ≤ 3 ∧ fkN y m w + 28 ≤ mrL y m) ∨ lastN y m w = fkN y m w + 28) ∧ ((fkN y m w ≤ 3 ∧ fkN y m w + 28 ≤ mrL y m) ∨ lastN y m w = fkN y m w + 21) := by
  unfold lastN
  split <;> omega
theorem any123 (x : Int) : ([1, 2, 3].any fun z : Int => z == x) = decide (x = 1 ∨ x = 2 ∨ x = 3) := by
  rw [Bool.eq_iff_iff]
  simp only [List.any_cons, List.any_nil, Bool.or_false, Bool.or_eq_true, beq_iff_eq, decide_eq_true_eq]
  constructor <;> (intro h; omega)
theorem la_a {y m w : Int} (h : ([1, 2, 3].any fun z : Int => z == 1 + Int.fmod (w - mrF y m) 7) = true) (h2 : 1 + Int.fmod (w - mrF y m) 7 + 28 ≤ mrL y m) : 1 + Int.fmod (w - mrF y m) 7 + (5 - 1) * 7 = lastN y m w := by
  rw [any123, decide_eq_true_eq] at h
  unfold lastN fkN
  rw [if_pos (by omega)]
  omega
theorem la_b {y m w : Int} (h2 : ¬ 1 + Int.fmod (w - mrF y m) 7 + 28 ≤ mrL y m) : 1 + Int.fmod (w - mrF y m) 7 + (4 - 1) * 7 = lastN y m w := by
  unfold lastN fkN
  rw [if_neg (by omega)]
  omega
theorem la_c {y m w : Int} (h : ([1, 2, 3].any fun z : Int => z == 1 + Int.fmod (w - mrF y m) 7) = false) : 1 + Int.fmod (w - mrF y m) 7 + (4 - 1) * 7 = lastN y m w := by
  rw [any123, decide_eq_false_iff_not] at h
  have hb := fkN_b y m w
  unfold fkN at hb
  unfold lastN fkN
  rw [if_neg (by omega)]
  omega
abbrev tup3O (a b c : Int) (t u v : Tok) (n : Nat) : Obj := { cls := .type "tuple", data := .seq #[.int a t, .int b u, .int c v] n }
abbrev PT3 (a b c : Int) : List (Addr × Obj) → Value → Prop := fun tl v => ∃ D t u q n, tl = [(D, tup3O a b c t u q n)] ∧ v = .ref D
abbrev PS : List (Addr × Obj) → Value → Prop := fun tl v => tl = [] ∧ ∃ t, v = .str (Str.ofString "refused") t
theorem con_tup3 {k f : Nat} {vs : List Value} {x y z : Int} (C : Con k f vs (PT3 x y z)) {w : World} {mean : ExcName → Option Value} {mg mb : Str → Option Value} {dp un : Nat} {gd : Option (List Code)} {cn : Str} {cs : Scope} {a : Addr} {ccd : Value} {cl : List (Str × Addr)} {outer : List Env} {A₀ : Around} {base h₀ : Heap} {L : Addr} {m : Str → Option Value} {news : List (Addr × Obj)} {s : Shared} {Q E : Value → Shared → Prop}
    (B : Below A₀ base outer h₀) (F : Fr h₀ L s.heap m) (X : (KO w.params).In h₀) (N : News h₀ L s.heap news) (T : Top q0 Lo mean mg mb h₀) (hk : cs.kind = .function) (hd : dp + k < recursionLimit) (hu : un + 8 * k < cLine)
    (ret : ∀ D t u q n h' tk', Fr h₀ L h' m → News h₀ L h' ((D, tup3O x y z t u q n) :: news) → (∀ p ∈ news, p.1 ≠ D) → Q (.ref D) { s with heap := h', toks := tk' }) :
    wpAny (model Challenge.rw_ja0024_01.row.prog w) (ktrTop dp un gd cn cs L a ccd cl outer) (PySem.call (.ref f) vs) Q E s := by
  refine C _ _ _ _ _ _ _ _ _ _ _ _ _ _ _ _ _ _ _ _ _ _ B F X N T hk hd hu ?_
  rintro v tl h' tk' ⟨D, t, u, q, n, rfl, rfl⟩ F' N' S
  exact ret D t u q n h' tk' F' N' fun p hp => S _ (.head _) p hp
theorem con_ref {k f : Nat} {vs : List Value} (C : Con k f vs PS) {w : World} {mean : ExcName → Option Value} {mg mb : Str → Option Value} {dp un : Nat} {gd : Option (List Code)} {cn : Str} {cs : Scope} {a : Addr} {ccd : Value} {cl : List (Str × Addr)} {outer : List Env} {A₀ : Around} {base h₀ : Heap} {L : Addr} {m : Str → Option Value} {news : List (Addr × Obj)} {s : Shared} {Q E : Value → Shared → Prop}
    (B : Below A₀ base outer h₀) (F : Fr h₀ L s.heap m) (X : (KO w.params).In h₀) (N : News h₀ L s.heap news) (T : Top q0 Lo mean mg mb h₀) (hk : cs.kind = .function) (hd : dp + k < recursionLimit) (hu : un + 8 * k < cLine)
    (ret : ∀ t h' tk', Fr h₀ L h' m → News h₀ L h' news → Q (.str (Str.ofString "refused") t) { s with heap := h', toks := tk' }) :
    wpAny (model Challenge.rw_ja0024_01.row.prog w) (ktrTop dp un gd cn cs L a ccd cl outer) (PySem.call (.ref f) vs) Q E s := by
  refine C _ _ _ _ _ _ _ _ _ _ _ _ _ _ _ _ _ _ _ _ _ _ B F X N T hk hd hu ?_
  rintro v tl h' tk' ⟨rfl, t, rfl⟩ F' N' S
  exact ret t h' tk' F' N'
theorem end_tup3 {a b c c' : Int} {t u q : Tok} {n : Nat} {g h₀ h' : Heap} {L L' D : Addr} {m : Str → Option Value} {news rest rest' : List (Addr × Obj)} {s : Shared} {tk : Nat} {Q : Value → Shared → Prop}
    (hret : ∀ v tl h' tk', PT3 a b c tl v → Fr h₀ L h' m → News h₀ L h' (tl ++ news) → (∀ q ∈ tl, ∀ p ∈ news, p.1 ≠ q.1) → Q v { s with heap := h', toks := tk' })
    (kF : Fr h₀ L h' m) (M : ∀ tl, News h₀ L h' tl → News h₀ L h' (tl ++ news)) (S : ∀ tl, News g L' h' tl → ∀ q ∈ tl, ∀ p ∈ news, p.1 ≠ q.1)
    (kN : News h₀ L h' ((D, tup3O a b c' t u q n) :: rest)) (N' : News g L' h' ((D, tup3O a b c' t u q n) :: rest')) (ec : c' = c) : Q (.ref D) { s with heap := h', toks := tk } := by
  subst ec
  refine hret _ [(D, tup3O a b c' t u q n)] h' tk ⟨D, t, u, q, n, rfl, rfl⟩ kF (M _ fun p hp => kN p ?_) (S _ fun p hp => N' p ?_)
  · rw [List.mem_singleton.mp hp]; exact .head _
  · rw [List.mem_singleton.mp hp]; exact .head _
theorem m12' {m : Int} (h : 1 ≤ m ∧ m ≤ 12) : m = 1 ∨ m = 2 ∨ m = 3 ∨ m = 4 ∨ m = 5 ∨ m = 6 ∨ m = 7 ∨ m = 8 ∨ m = 9 ∨ m = 10 ∨ m = 11 ∨ m = 12 := by
  have d : ∀ k : Fin 12, (k.1 : Int) + 1 = 1 ∨ (k.1 : Int) + 1 = 2 ∨ (k.1 : Int) + 1 = 3 ∨ (k.1 : Int) + 1 = 4 ∨ (k.1 : Int) + 1 = 5 ∨ (k.1 : Int) + 1 = 6 ∨ (k.1 : Int) + 1 = 7 ∨ (k.1 : Int) + 1 = 8 ∨ (k.1 : Int) + 1 = 9 ∨ (k.1 : Int) + 1 = 10 ∨ (k.1 : Int) + 1 = 11 ∨ (k.1 : Int) + 1 = 12 := by decide
  have e : (((m - 1).toNat : Nat) : Int) + 1 = m := by omega
  have := d ⟨(m - 1).toNat, by omega⟩
  simpa only [e] using this
theorem mrL_bN (y : Int) {m : Int} (h : 1 ≤ m ∧ m ≤ 12) : 28 ≤ mrL y m ∧ mrL y m ≤ 31 := by
  unfold mrL
  cases leapG y <;> (rcases m12' h with rfl | rfl | rfl | rfl | rfl | rfl | rfl | rfl | rfl | rfl | rfl | rfl <;> decide)
-- part GB
def daysD (lpad ml : Nat) : List Dat := List.replicate lpad Dat.none ++ (List.range ml).map (fun i : Nat => Dat.int (1 + (i : Int))) ++ List.replicate 7 Dat.none
def rowD (lpad ml j : Nat) : List Dat := ((daysD lpad ml).drop (7 * j)).take 7
def gridD (lpad ml : Nat) : Dat := .list ((List.range ((lpad + ml + 6) / 7)).map fun j => .list (rowD lpad ml j))
abbrev PG (d : Dat) : List (Addr × Obj) → Value → Prop := fun tl v => (∃ a, v = .ref a) ∧ ∀ h : Heap, (∀ p ∈ tl, h.get? p.1 = some p.2) → ∃ as, Reads h v (kqdP d) as
theorem daysD_ok {lpad ml n : Nat} : ∀ d ∈ daysD lpad ml, kqdOk n d = true := by
  intro d hd
  unfold daysD at hd
  rcases List.mem_append.mp hd with h | h
  · rcases List.mem_append.mp h with h | h
    · rw [(List.mem_replicate.mp h).2]; cases n <;> rfl
    · obtain ⟨i, _, rfl⟩ := List.mem_map.mp h; cases n <;> rfl
  · rw [(List.mem_replicate.mp h).2]; cases n <;> rfl
theorem gridD_ok (lpad ml : Nat) : kqdOk 9 (gridD lpad ml) = true := by
  unfold gridD
  simp only [kqdOk, List.all_eq_true]
  intro d hd
  obtain ⟨j, _, rfl⟩ := List.mem_map.mp hd
  simp only [kqdOk, List.all_eq_true]
  intro c hc
  exact daysD_ok c (List.mem_of_mem_drop (List.mem_of_mem_take hc))
def StopHere (P : Prop) : Prop := P
theorem stop_here {P : Prop} (h : StopHere P) : P := h
section
variable {prog : Program} {w : World} {A : Around} {E : Value → Shared → Prop} {s : Shared} {h₀ : Heap} {L : Addr} {m : Str → Option Value} {news : List (Addr × Obj)} {Q : Value → Shared → Prop}
theorem dat_eq {d : Dat} {a b : Value} {as bs : List Addr} (hok : kqdOk 9 d = true) (ra : Reads s.heap a (kqdP d) as) (rb : Reads s.heap b (kqdP d) bs) (hu : A.units + 64 < cLine) (h : Q (.bool true) s) :
    wpAny (model prog w) A (compareOp .Eq a b) Q E s := by
  have la := kqd_lay 9 d hok
  have sh : SeqAt.shaped (kqdP d) = true := by
    unfold SeqAt.shaped; rw [la.1, Bool.true_and]; exact decide_eq_true (Nat.le_trans la.2 (by decide))
  exact eq_dataH ra rb sh sh hu (by rw [(kqd_eqv 9 d d 9 hok hok).mpr rfl]; exact h)
theorem grid_eq {d : Dat} {a b : Value} {t₁ t₂ : List (Addr × Obj)} (hok : kqdOk 9 d = true) (N : News h₀ L s.heap news) (ra : ∀ h : Heap, (∀ p ∈ t₁, h.get? p.1 = some p.2) → ∃ as, Reads h a (kqdP d) as) (ha : ∀ p ∈ t₁, p ∈ news)
    (rb : ∀ h : Heap, (∀ p ∈ t₂, h.get? p.1 = some p.2) → ∃ as, Reads h b (kqdP d) as) (hb : ∀ p ∈ t₂, p ∈ news) (hu : A.units + 64 < cLine) (h : Q (.bool true) s) :
    wpAny (model prog w) A (compareOp .Eq a b) Q E s := by
  obtain ⟨as, r1⟩ := ra _ fun p hp => (N p (ha p hp)).1
  obtain ⟨bs, r2⟩ := rb _ fun p hp => (N p (hb p hp)).1
  exact dat_eq hok r1 r2 hu h

theorem flat_none (n : Nat) : List.foldl (fun x1 x2 => x1 ++ x2) #[] (List.replicate n #[Value.none]) = (List.replicate n Value.none).toArray := by
  have all : ∀ (n : Nat) (acc : Array Value), List.foldl (fun x1 x2 => x1 ++ x2) acc (List.replicate n #[Value.none]) = acc ++ (List.replicate n Value.none).toArray := by
    intro n
    induction n with
    | zero => intro acc; simp
    | succ n ih => intro acc; rw [List.replicate_succ, List.foldl_cons, ih, List.replicate_succ]; apply Array.ext'; simp [List.replicate_succ]
  rw [all]; simp
theorem mul_none {l : Addr} {k : Nat} {x : Int} {u : Tok} (F : Fr h₀ L s.heap m) (N : News h₀ L s.heap news) (hm : (l, listOf #[Value.none] k) ∈ news) (h0 : 0 ≤ x) (h1 : x ≤ 1000)
    (h : ∀ D h', Fr h₀ L h' m → News h₀ L h' ((D, listOf (List.replicate x.toNat Value.none).toArray 0) :: news) → (∀ p ∈ news, p.1 < D) → Q (.ref D) { s with heap := h' }) :
    wpAny (model prog w) A (binaryOp .Mult (.ref l) (.int x u)) Q E s := by
  refine mul_list F N (N _ hm).1 (by omega) (by omega) (by simp; omega) fun h' F' N' => ?_
  have e : (if (#[Value.none] : Array Value).isEmpty = true then 0 else x.toNat) = x.toNat := rfl
  rw [e, flat_none] at N'
  exact h _ h' F' N' fun p hp => Heap.lt_size (N p hp).1
theorem mul_none_r {l : Addr} {k : Nat} {x : Int} {u : Tok} (F : Fr h₀ L s.heap m) (N : News h₀ L s.heap news) (hm : (l, listOf #[Value.none] k) ∈ news) (h0 : 0 ≤ x) (h1 : x ≤ 1000)
    (h : ∀ D h', Fr h₀ L h' m → News h₀ L h' ((D, listOf (List.replicate x.toNat Value.none).toArray 0) :: news) → (∀ p ∈ news, p.1 < D) → Q (.ref D) { s with heap := h' }) :
    wpAny (model prog w) A (binaryOp .Mult (.int x u) (.ref l)) Q E s := by
  refine mul_list_r F N (N _ hm).1 (by omega) (by omega) (by simp; omega) fun h' F' N' => ?_
  have e : (if (#[Value.none] : Array Value).isEmpty = true then 0 else x.toNat) = x.toNat := rfl
  rw [e, flat_none] at N'
  exact h _ h' F' N' fun p hp => Heap.lt_size (N p hp).1
theorem add_made {a b : Addr} {xs ys : List Value} {n k : Nat} (F : Fr h₀ L s.heap m) (N : News h₀ L s.heap news) (ha : (a, listOf xs.toArray n) ∈ news) (hb : (b, listOf ys.toArray k) ∈ news) (hz : xs.length + ys.length ≤ 1000)
    (h : ∀ D h', Fr h₀ L h' m → News h₀ L h' ((D, listOf (xs ++ ys).toArray 0) :: news) → (∀ p ∈ news, p.1 < D) → Q (.ref D) { s with heap := h' }) :
    wpAny (model prog w) A (binaryOp .Add (.ref a) (.ref b)) Q E s := by
  refine PyProof.Rows.add_arrays F N (N.isList ha) (N.isList hb) (fun h' F' N' => h _ h' F' N' fun p hp => Heap.lt_size (N p hp).1) (by rw [sizeLine_eq]; simp; omega)
end
section
variable {prog : Program} {w : World} {A : Around} {E : Value → Shared → Prop} {s : Shared} {h₀ : Heap} {L : Addr} {m : Str → Option Value}
/-- the library's rule for a comprehension over a range that makes lists, at a frame that is told -/
def lc_rows (_F : Fr h₀ L s.heap m) := @ListComp_DCrO prog w A E s h₀ L m
end
-- part CU
theorem cutQ {M : Model} {A : Around} {tree : Sem Value} {Q R : Value → Shared → Prop} {E : Value → Shared → Prop} {s : Shared} (h1 : wpAny M A tree R E s) (h2 : ∀ v s', R v s' → Q v s') : wpAny M A tree Q E s := wpAny_mono h1 h2 fun _ _ e => e
def IntR (P : Int → Prop) (h₀ : Heap) (L : Addr) (m : Str → Option Value) (news : List (Addr × Obj)) (s : Shared) : Value → Shared → Prop := fun v s' => ∃ Y t h' tk', v = .int Y t ∧ P Y ∧ s' = { s with heap := h', toks := tk' } ∧ Fr h₀ L h' m ∧ News h₀ L h' news
/-- a step that gives an int: all its ways go on as one, with a letter for it, of which P is known -/
theorem cutInt (P : Int → Prop) {M : Model} {A : Around} {tree : Sem Value} {Q : Value → Shared → Prop} {E : Value → Shared → Prop} {s : Shared} {h₀ : Heap} {L : Addr} {m : Str → Option Value} {news : List (Addr × Obj)} (_ : Fr h₀ L s.heap m) (_ : News h₀ L s.heap news)
    (h1 : wpAny M A tree (IntR P h₀ L m news s) E s) (h2 : ∀ Y t h' tk', P Y → Fr h₀ L h' m → News h₀ L h' news → Q (.int Y t) { s with heap := h', toks := tk' }) : wpAny M A tree Q E s :=
  cutQ h1 fun v s' ⟨Y, t, h', tk', e1, p, e2, F, N⟩ => by subst e1; subst e2; exact h2 Y t h' tk' p F N
theorem intR_end {P : Int → Prop} {h₀ h' : Heap} {L : Addr} {m : Str → Option Value} {news : List (Addr × Obj)} {s : Shared} {Y : Int} {t : Tok} {tk : Nat} (F : Fr h₀ L h' m) (N : News h₀ L h' news) (p : P Y) : IntR P h₀ L m news s (.int Y t) { s with heap := h', toks := tk } :=
  ⟨Y, t, h', tk, rfl, p, rfl, F, N⟩
def GoMark : Prop := True
theorem goMark : GoMark := trivial
def SetR (x : Str) (P : Int → Prop) (h₀ : Heap) (L : Addr) (m : Str → Option Value) (news : List (Addr × Obj)) (s : Shared) : Flow → Shared → Prop := fun fl s' => ∃ Y t h' tk', fl = .next ∧ P Y ∧ s' = { s with heap := h', toks := tk' } ∧ Fr h₀ L h' (fun z => if z = x then some (.int Y t) else m z) ∧ News h₀ L h' news
/-- a statement all of whose ways give one name an int of which P is known -/
theorem cutSet (x : Str) (P : Int → Prop) {M : Model} {A : Around} {tree : Sem Flow} {Q : Flow → Shared → Prop} {E : Value → Shared → Prop} {s : Shared} {h₀ : Heap} {L : Addr} {m : Str → Option Value} {news : List (Addr × Obj)} (_ : Fr h₀ L s.heap m) (_ : News h₀ L s.heap news)
    (h1 : wpAny M A tree (SetR x P h₀ L m news s) E s) (h2 : ∀ Y t h' tk', P Y → Fr h₀ L h' (fun z => if z = x then some (.int Y t) else m z) → News h₀ L h' news → Q .next { s with heap := h', toks := tk' }) : wpAny M A tree Q E s :=
  wpAny_mono h1 (fun v s' ⟨Y, t, h', tk', e1, p, e2, F, N⟩ => by subst e1; subst e2; exact h2 Y t h' tk' p F N) fun _ _ e => e
theorem setR_end {x : Str} {P : Int → Prop} {h₀ h' : Heap} {L : Addr} {m : Str → Option Value} {news : List (Addr × Obj)} {s : Shared} {Y : Int} {t : Tok} {tk : Nat} (F : Fr h₀ L h' (fun z => if z = x then some (.int Y t) else m z)) (N : News h₀ L h' news) (p : P Y) : SetR x P h₀ L m news s .next { s with heap := h', toks := tk } :=
  ⟨Y, t, h', tk, rfl, p, rfl, F, N⟩
theorem setR_same {x : Str} {P : Int → Prop} {h₀ h' : Heap} {L : Addr} {m : Str → Option Value} {news : List (Addr × Obj)} {s : Shared} {Y : Int} {t : Tok} {tk : Nat} (F : Fr h₀ L h' m) (hm : m x = some (.int Y t)) (N : News h₀ L h' news) (p : P Y) : SetR x P h₀ L m news s .next { s with heap := h', toks := tk } := by
  refine ⟨Y, t, h', tk, rfl, p, rfl, ?_, N⟩
  have e : (fun z => if z = x then some (Value.int Y t) else m z) = m := by
    funext z
    by_cases h : z = x
    · rw [if_pos h, h, hm]
    · rw [if_neg h]
  rw [e]
  exact F
-- part N1
def dayX (n y m w : Int) : Int := if n = 0 then lastN y m w else fkN y m w + (n - 1) * 7
theorem lx_a {n y m w : Int} (hn : n = 0) (h : ([1, 2, 3].any fun z : Int => z == 1 + Int.fmod (w - mrF y m) 7) = true) (h2 : 1 + Int.fmod (w - mrF y m) 7 + 28 ≤ mrL y m) : 1 + Int.fmod (w - mrF y m) 7 + (5 - 1) * 7 = dayX n y m w := (la_a h h2).trans (if_pos hn).symm
theorem lx_b {n y m w : Int} (hn : n = 0) (h2 : ¬ 1 + Int.fmod (w - mrF y m) 7 + 28 ≤ mrL y m) : 1 + Int.fmod (w - mrF y m) 7 + (4 - 1) * 7 = dayX n y m w := (la_b h2).trans (if_pos hn).symm
theorem lx_c {n y m w : Int} (hn : n = 0) (h : ([1, 2, 3].any fun z : Int => z == 1 + Int.fmod (w - mrF y m) 7) = false) : 1 + Int.fmod (w - mrF y m) 7 + (4 - 1) * 7 = dayX n y m w := (la_c h).trans (if_pos hn).symm
theorem lx_d {n y m w : Int} (hn : n ≠ 0) : 1 + Int.fmod (w - mrF y m) 7 + (n - 1) * 7 = dayX n y m w := (if_neg hn).symm
theorem dayX_le {n y m w : Int} (h0 : 1 ≤ m ∧ m ≤ 12) (h3 : n = 0 ∨ fkN y m w + (n - 1) * 7 ≤ mrL y m) : dayX n y m w ≤ mrL y m := by
  have hf := fkN_b y m w
  have hl := mrL_bN y h0
  unfold dayX
  by_cases hn : n = 0
  · rw [if_pos hn]
    unfold lastN
    split <;> omega
  · rw [if_neg hn]
    exact h3.resolve_left hn
theorem ln_N1_1 : True := by
  k_with_none
  (k_with "execs cons" => (k_here; (try dsimp only); k_gentoks))
  (k_with "execs nil" => (k_here; (try dsimp only); k_gentoks))
  (k_with "call ref" => (k_here; k_dflt (refine wpAny_call ?_; (refine' code_def ?k1Zq ?k2Zq ?k3Zq ?k4Zq ?k5Zq ?kAZq ?kFZq ?kKZq ?k6Zq ?k7Zq ?k8Zq ?k9Zq ?kBZq ?_ ?c2Zq ?c3Zq ?c4Zq ?c5Zq; (case kAZq => exact rfl); (case kFZq => exact rfl); (case kKZq => exact rfl); (case k1Zq => k_asm); (case k2Zq => k_asm); (case k3Zq => k_asm); (case k4Zq => k_asm); (case k5Zq => k_asm); (case k6Zq => k_is); (case k7Zq => k_is); (case k8Zq => ktr_room); (case k9Zq => first | exact BindsTo.of_eq rfl | exact binds_K (by k_in) rfl (by k_is) rfl rfl rfl | fail "k_enter: no rule for these arguments"); (case c5Zq => decide); (case kBZq => exact locs rfl); (case c2Zq => exact rfl); (case c3Zq => exact rfl); (case c4Zq => exact rfl); k_whole; intro g' L' h' FG' F' N' B' X' T'; (try dsimp only); (try k_lift B'); (try k_fold))); walk_say "INLINE"))
  (k_with "call ref" => (k_here; k_dflt (refine' con_tup (c_mr _ _ _ _ ?p0Zq) ?k1Zq ?k2Zq ?k3Zq ?k4Zq ?k5Zq ?kKZq ?kdZq ?kuZq ?_; (case p0Zq => first | assumption | omega | l_fact | (simp_all; done) | (simp_all; omega)); (case k1Zq => k_asm); (case k2Zq => k_asm); (case k3Zq => k_asm); (case k4Zq => k_asm); (case k5Zq => k_asm); (case kKZq => first | exact rfl | assumption); (case kdZq => first | exact room_of (by assumption) (by rfl) | ktr_room); (case kuZq => first | exact units_of (by assumption) (by rfl) | ktr_units)); intro D9 t9 u9 n9 h9 tk9 F9 N9 l9; (try dsimp only); (try k_fold); walk_say "USE c_mr"))
  (k_with "exec If" => (k_here; (fail_if_success (fail_if_success (have mk9 : GoMark := by with_reducible assumption))); (with_reducible show wpAny _ _ (exec (Stmt.If (Expr.Compare _ [CmpOp.Eq] _ _) _ _ _) _) _ _ _); refine stop_here ?_))
  trivial
set_option maxHeartbeats 0 in
theorem c_nth_X (n w m y : Int) (tn tw tm ty : Tok) (h0 : 1 ≤ m ∧ m ≤ 12) (h1 : 0 ≤ w ∧ w ≤ 6) (h2 : 0 ≤ n ∧ n ≤ 5) (h3 : n = 0 ∨ fkN y m w + (n - 1) * 7 ≤ mrL y m) : Con 16 425 [.int n tn, .int w tw, .int m tm, .int y ty] (PT3 y m (dayX n y m w)) := by
  have hmk := goMark
  have hdx := dayX_le h0 h3
  have hfk : 1 ≤ 1 + Int.fmod (w - mrF y m) 7 ∧ 1 + Int.fmod (w - mrF y m) 7 ≤ 7 := fkN_b y m w
  have hml := mrL_bN y h0
  clear h3
  unfold Con
  k_fill
  w_on
  intros; rename_i hret
  refine wpAny_call ?_
  k_dflt (refine' code_p ?k1 ?k2 ?k3 ?k4 ?k5 ?kA ?kF ?kK ?k6 ?k7 ?k8 ?k9 ?kB ?_ ?c2 ?c3 ?c4 ?c5; (case kA => exact rfl); (case kF => exact rfl); (case kK => assumption); (case k1 => k_asm); (case k2 => k_asm); (case k3 => k_asm); (case k4 => k_asm); (case k5 => k_asm); (case k6 => k_is); (case k7 => k_is); (case k8 => first | exact Nat.lt_of_le_of_lt (Nat.le_add_right _ _) (by assumption) | ktr_room); (case k9 => first | exact BindsTo.of_eq rfl | exact binds_K (by k_in) rfl (by k_is) rfl rfl rfl); (case c5 => decide); (case kB => exact locs rfl); (case c2 => exact rfl); (case c3 => exact rfl); (case c4 => exact rfl); k_whole; intro g' L' h' FG' F' N' B' X' T'; (try dsimp only); (try k_lift B'); (try k_fold))
  k_steps
  unfold StopHere
  k_dflt (refine' cutSet (Str.ofString "n") (fun Y => (0 ≤ Y ∧ Y ≤ 5) ∧ 1 + Int.fmod (w - mrF y m) 7 + (Y - 1) * 7 = dayX n y m w) ?ldF ?ldN ?thr ?fou; (case ldF => k_asm); (case ldN => k_asm))
  case thr =>
    clear hmk
    k_steps
    all_goals (k_dflt (first | refine setR_end (by k_asm) (by first | k_asm | exact fun q hq => (by assumption : News _ _ _ (_ :: _)) q (.tail _ hq) | exact fun q hq => (by assumption : News _ _ _ (_ :: _ :: _)) q (.tail _ (.tail _ hq))) ⟨?_, ?_⟩ | refine setR_same (by k_asm) rfl (by first | k_asm | exact fun q hq => (by assumption : News _ _ _ (_ :: _)) q (.tail _ hq) | exact fun q hq => (by assumption : News _ _ _ (_ :: _ :: _)) q (.tail _ (.tail _ hq))) ⟨?_, ?_⟩))
    all_goals first | exact lx_a (by assumption) (by assumption) (by assumption) | exact lx_b (by assumption) (by assumption) | exact lx_c (by assumption) (by assumption) | exact lx_d (by assumption) | exact h2 | exact ⟨by decide, by decide⟩
  case fou =>
    intro Z tZ hZ tkZ eZ FZ NZ
    obtain ⟨bZ, eZ⟩ := eZ
    clear hmk h1 h2
    (try k_fold)
    k_steps
    all_goals first | (exfalso; law_clear; omega; done) | (k_dflt (refine' end_tup3 hret ?kF ?M ?S ?kN ?N ?ed; (case kF => k_asm); (case M => assumption); (case S => assumption); (case kN => k_asm); (case N => k_asm); (case ed => assumption)))
theorem c_nth_a1 (w m y : Int) (tw tm ty : Tok) (tn : Tok) (h0 : 1 ≤ m ∧ m ≤ 12) (h1 : 0 ≤ w ∧ w ≤ 6) : Con 16 425 [.int 0 tn, .int w tw, .int m tm, .int y ty] (PT3 y m (lastN y m w)) := by
  have h := c_nth_X 0 w m y tn tw tm ty h0 h1 ⟨by decide, by decide⟩ (.inl rfl)
  rwa [show dayX 0 y m w = lastN y m w from if_pos rfl] at h
theorem c_nth_a2 (n w m y : Int) (tn tw tm ty : Tok) (h0 : 1 ≤ m ∧ m ≤ 12) (h1 : 0 ≤ w ∧ w ≤ 6) (h2 : 1 ≤ n ∧ n ≤ 5) (h3 : fkN y m w + (n - 1) * 7 ≤ mrL y m) : Con 16 425 [.int n tn, .int w tw, .int m tm, .int y ty] (PT3 y m (fkN y m w + (n - 1) * 7)) := by
  have h := c_nth_X n w m y tn tw tm ty h0 h1 ⟨by omega, h2.2⟩ (.inr h3)
  rwa [show dayX n y m w = fkN y m w + (n - 1) * 7 from if_neg (by omega)] at h
-- part K0
abbrev frs (l : List Env) : List Addr := l.filterMap (·.frame)
/-- the end of a def whose call may have turned the frames beneath it: what its caller has afterwards -/
def LeaveT (fs : List Addr) (g : Heap) (R : Shared → Prop) (s' : Shared) : Prop :=
  ∃ g' L' m', KtsTurn fs g g' ∧ Fr g' L' s'.heap m' ∧ R s'
theorem leaveT {fs : List Addr} {g g' : Heap} {R : Shared → Prop} {s' : Shared} {L' : Addr} {m' : Str → Option Value} (T : KtsTurn fs g g') (F : Fr g' L' s'.heap m') (r : R s') : LeaveT fs g R s' := ⟨g', L', m', T, F, r⟩
theorem frs_mem {env : Env} {outer : List Env} {L b : Addr} (hf : env.frame = some L) (hm : b ∈ frs (env :: outer)) : b = L ∨ b ∈ frs outer := by
  obtain ⟨e, he, hb⟩ := List.mem_filterMap.mp hm
  cases he with
  | head => rw [hf] at hb; exact .inl (Option.some.inj hb).symm
  | tail _ he => exact .inr (List.mem_filterMap.mpr ⟨e, he, hb⟩)
section
variable {A₀ : Around} {base h₀ hp g' h' : Heap} {outer : List Env} {env : Env} {L L' : Addr} {m m' : Str → Option Value} {news : List (Addr × Obj)} {K : Frag} {p : Program} {loose : List Str} {mean : ExcName → Option Value} {mg mb : Str → Option Value}
/-- what a caller still has when its callee's ground (the whole heap hp) has turned its frames' slots -/
theorem turn_back (B : Below A₀ base outer h₀) (F : Fr h₀ L hp m) (N : News h₀ L hp news) (XB : K.In base) (TB : Top p loose mean mg mb base) (D : KtsDicts (frs outer) h₀) (hf : env.frame = some L)
    (T : KtsTurn (frs (env :: outer)) hp g') (F' : Fr g' L' h' m') :
    ∃ h₁, KtsTurn (frs outer) h₀ h₁ ∧ Fr h₁ L h' m ∧ News h₁ L h' news ∧ Below A₀ base outer h₁ ∧ K.In h₁ ∧ Top p loose mean mg mb h₁ ∧ KtsDicts (frs outer) h₁ := by
  have hL0 : h₀.get? L = none := kts_self F
  have notin : ∀ b, b ≠ L → b ∉ frs outer → b ∉ frs (env :: outer) := fun b h1 h2 h3 => (frs_mem hf h3).elim h1 h2
  obtain ⟨T₁, S₁⟩ := kts_turn_at (fs := frs outer) (g := h₀) (h := h')
    (fun b hb => by obtain ⟨_, o, ho, _⟩ := B.frames.mem hb; exact ⟨o, ho⟩)
    (fun b o e nm => F'.keep b o (T.other b o (F.keep b o e) (notin b (fun q => by rw [q, hL0] at e; cases e) nm)))
    (fun b o e _ => by
      obtain ⟨sl, hs⟩ := T.up (F.keep b o e)
      exact ⟨sl, F'.keep _ _ hs⟩)
  have B₁ : Below A₀ base outer (ktsHeap h' (frs outer) h₀) :=
    ⟨B.stack, fun b o e => T₁.other b o (B.stays b o e) (fun hm => by rw [(B.frames.mem hm).1] at e; cases e), B.frames.of_keeps fun b o e _ => by
      obtain ⟨sl, hs⟩ := T₁.up e
      exact ⟨_, hs, rfl⟩⟩
  obtain ⟨oL, es, ep, hL, hLd, hLk, hLf⟩ := F.ns
  obtain ⟨sl, hs⟩ := T.up hL
  refine ⟨_, T₁, ⟨⟨_, es, ep, F'.keep _ _ hs, hLd, hLk, hLf⟩, S₁, by rw [T₁.size]; exact F.above⟩, fun q hq => ?_, B₁, XB.keeps B₁.stays, TB.keeps B₁.stays, D.turn T₁⟩
  have z := N q hq
  refine ⟨F'.keep _ _ (T.other _ _ z.1 (notin _ z.2.1 fun hm => ?_)), z.2.1, T₁.none_ _ z.2.2⟩
  obtain ⟨_, o, ho, _⟩ := B.frames.mem hm
  rw [z.2.2] at ho
  cases ho
theorem dicts_push (F : Fr h₀ L hp m) (D : KtsDicts (frs outer) h₀) (hf : env.frame = some L) : KtsDicts (frs (env :: outer)) hp := by
  intro b hb
  rcases frs_mem hf hb with rfl | hb
  · obtain ⟨oL, es, ep, hL, hLd, _⟩ := F.ns
    exact ⟨oL, es, ep, hL, hLd⟩
  · obtain ⟨o, es, n, ho, hd⟩ := D b hb
    exact ⟨o, es, n, F.keep b o ho, hd⟩
end
section
variable {prog : Program} {w : World} {A A₀ : Around} {s : Shared} {K : Frag} {L : Addr} {h₀ base : Heap} {m mg mb : Str → Option Value} {news : List (Addr × Obj)} {p : Program} {loose : List Str} {mean : ExcName → Option Value}
    {env : Env} {outer : List Env} {R : Result → Shared → Prop} {name qual : Str} {params : Arguments} {body : List Stmt} {scope : Scope} {dV kV doc pm cdv ct oc : Value} {an od : Option Addr} {osl : Array (Option Value)} {f : Addr} {args : Args} {binds : List (Str × Value)}
theorem code_k (B : Below A₀ base outer h₀) (F : Fr h₀ L s.heap m) (X₀ : K.In h₀) (N : News h₀ L s.heap news) (T : Top p loose mean mg mb h₀) (XB : K.In base) (TB : Top p loose mean mg mb base) (D : KtsDicts (frs outer) h₀)
    (hA : A.frames = some (env :: outer)) (hf : env.frame = some L) (hke : env.scope.kind = .function)
    (ho : K.lookup f = some ⟨oc, od, .func (fnOf name qual params body scope dV kV doc pm an cdv ct), osl⟩) (hcd : codeIn K cdv qual = true) (hroom : A.depth < recursionLimit)
    (hbind : BindsTo s (fnOf name qual params body scope dV kV doc pm an cdv ct) args binds) (hloc : ∀ y ∈ binds, scope.names.lookup y.1 = some .local)
    (h : ∀ g L' h₁, Fr g L' h₁ (fun y => binds.reverse.lookup y) → News g L' h₁ [] → Below A base (env :: outer) g → K.In g → Top p loose mean mg mb g → KtsDicts (frs (env :: outer)) g →
      wpAny (model prog w) (A.deeper (envOf qual scope L' f cdv)) (execs body (envOf qual scope L' f cdv))
        (fun fl s' => LeaveT (frs (env :: outer)) g (fun s'' => ∀ h₁, KtsTurn (frs outer) h₀ h₁ → Fr h₁ L s''.heap m → News h₁ L s''.heap news → Below A₀ base outer h₁ → K.In h₁ → Top p loose mean mg mb h₁ → KtsDicts (frs outer) h₁ → R (.ok (.ret (match fl with | .ret v => v | _ => .none))) s'') s')
        (fun e s' => wpAny (model prog w) (A.deeper (envOf qual scope L' f cdv)) (leaving (envOf qual scope L' f cdv) e) (fun _ s'' => R (.error e) s'') (fun e' s'' => R (.error e') s'') s')
        { s with heap := h₁, toks := s.toks + binds.length })
    (hco : scope.isCoroutine = false) (hgen : scope.isGenerator = false) (hk : scope.kind = .function)
    (hcell : ∀ x ∈ scope.names, x.2 ≠ .cell) : codeAny (model prog w) A (.call (.ref f) args) R s := by
  refine codeAny_call_def (fd := fnX name qual params body scope [] dV kV doc pm an cdv ct) (body := body) (binds := binds) hroom ((X₀.keeps F.keep) _ _ ho) rfl (T.nolimit.keeps F.keep) (codeRec_of (X₀.keeps F.keep) hcd) rfl hbind hcell hloc (fun h₁ hns hk₁ => ?_) hco hgen hk
  refine wpAny_mono (h s.heap s.heap.objs.size h₁ ⟨hns, fun b o e => hk₁ b o e, Nat.le_refl _⟩ News.nil ⟨hA, (pushX B F hf hke).stays, (pushX B F hf hke).frames⟩ (X₀.keeps F.keep) (T.keeps F.keep) (dicts_push F D hf)) (fun fl s' hl => ?_) fun _ _ y => y
  obtain ⟨g', L', m', Tg, F', k⟩ := hl
  obtain ⟨h₂, b0, b1, b2, b3, b4, b5, b6⟩ := turn_back B F N XB TB D hf Tg F'
  exact k h₂ b0 b1 b2 b3 b4 b5 b6
theorem code_kC (B : Below A₀ base outer h₀) (F : Fr h₀ L s.heap m) (X₀ : K.In h₀) (N : News h₀ L s.heap news) (T : Top p loose mean mg mb h₀) (XB : K.In base) (TB : Top p loose mean mg mb base) (D : KtsDicts (frs outer) h₀)
    (hA : A.frames = some (env :: outer)) (hf : env.frame = some L) (hke : env.scope.kind = .function)
    (ho : K.lookup f = some ⟨oc, od, .func (fnOf name qual params body scope dV kV doc pm an cdv ct), osl⟩) (hcd : codeIn K cdv qual = true) (hroom : A.depth < recursionLimit)
    (hbind : BindsTo s (fnOf name qual params body scope dV kV doc pm an cdv ct) args binds) (hkind : (binds.all fun y => scope.names.lookup y.1 == some .local || scope.names.lookup y.1 == some .cell) = true)
    (hnd : ((cellsFrom 0 scope.names []).map (·.1)).Nodup)
    (h : ∀ g L' h₁ tk cells, Fr g L' h₁ (bindL (envOfC qual scope L' f cdv).kindOf binds fun _ => none) → News g L' h₁ (cells ++ []) →
      CellsAre (bindC (envOfC qual scope L' f cdv).kindOf binds fun _ => none) (cellsFrom (L' + 1) scope.names []) cells → Below A base (env :: outer) g → K.In g → Top p loose mean mg mb g → KtsDicts (frs (env :: outer)) g →
      wpAny (model prog w) (A.deeper (envOfC qual scope L' f cdv)) (execs body (envOfC qual scope L' f cdv))
        (fun fl s' => LeaveT (frs (env :: outer)) g (fun s'' => ∀ h₁, KtsTurn (frs outer) h₀ h₁ → Fr h₁ L s''.heap m → News h₁ L s''.heap news → Below A₀ base outer h₁ → K.In h₁ → Top p loose mean mg mb h₁ → KtsDicts (frs outer) h₁ → R (.ok (.ret (match fl with | .ret v => v | _ => .none))) s'') s')
        (fun e s' => wpAny (model prog w) (A.deeper (envOfC qual scope L' f cdv)) (leaving (envOfC qual scope L' f cdv) e) (fun _ s'' => R (.error e) s'') (fun e' s'' => R (.error e') s'') s')
        { s with heap := h₁, toks := tk })
    (hco : scope.isCoroutine = false) (hgen : scope.isGenerator = false) (hk : scope.kind = .function) : codeAny (model prog w) A (.call (.ref f) args) R s := by
  refine codeAny_call_function hroom ((X₀.keeps F.keep) _ _ ho) rfl hco hgen rfl (codeRec_of (X₀.keeps F.keep) hcd) (hbind _ _ _ _ ?_)
  refine wpAny_newFunctionEnv_cells hk (kindsX hkind _) fun env' he s' x => ?_
  subst he
  refine ⟨((T.nolimit).keeps F.keep).keeps x.toInCall.keep, codeAny_func ?_⟩
  obtain ⟨h₁, tk, rfl, _⟩ := x.done
  have hk₁ := x.toInCall.keep
  obtain ⟨cells, NC, Y⟩ := Cl.news (h₀ := s.heap) (Nat.le_refl _) fun n c hm => ⟨x.cell n c (lookup_of_mem_nodup (cellsFrom_names scope.names 0 (s.heap.objs.size + 1) [] [] rfl ▸ hnd) hm), x.above n c hm⟩
  refine wpAny_mono (h s.heap s.heap.objs.size h₁ tk cells ⟨x.toInCall.ns, fun b o e => hk₁ b o e, Nat.le_refl _⟩ (by rw [List.append_nil]; exact NC) Y ⟨hA, (pushX B F hf hke).stays, (pushX B F hf hke).frames⟩ (X₀.keeps F.keep) (T.keeps F.keep) (dicts_push F D hf)) (fun fl s' hl => ?_) fun _ _ y => y
  obtain ⟨g', L', m', Tg, F', k⟩ := hl
  obtain ⟨h₂, b0, b1, b2, b3, b4, b5, b6⟩ := turn_back B F N XB TB D hf Tg F'
  exact k h₂ b0 b1 b2 b3 b4 b5 b6
end
/-- a contract for a def whose call may raise within and so turn the frames beneath -/
def ConK (k : Nat) (f : Addr) (vs : List Value) (P : Value → Prop) : Prop :=
  ∀ (w : World) (mean : ExcName → Option Value) (mg mb : Str → Option Value) (dp un : Nat) (gd : Option (List Code)) (cn : Str) (cs : Scope) (a : Addr) (ccd : Value) (cl : List (Str × Addr)) (outer : List Env) (A₀ : Around) (base h₀ : Heap) (L : Addr) (m : Str → Option Value) (news : List (Addr × Obj)) (s : Shared) (Q E : Value → Shared → Prop),
    Below A₀ base outer h₀ → Fr h₀ L s.heap m → (KO w.params).In h₀ → News h₀ L s.heap news → Top q0 Lo mean mg mb h₀ → (KO w.params).In base → Top q0 Lo mean mg mb base → KtsDicts (frs outer) h₀ → cs.kind = .function → dp + k < recursionLimit → un + 8 * k < cLine →
    (∀ v h₁ h' tk', P v → KtsTurn (frs outer) h₀ h₁ → Fr h₁ L h' m → News h₁ L h' news → Below A₀ base outer h₁ → (KO w.params).In h₁ → Top q0 Lo mean mg mb h₁ → KtsDicts (frs outer) h₁ → Q v { s with heap := h', toks := tk' }) →
    wpAny (model Challenge.rw_ja0024_01.row.prog w) (ktrTop dp un gd cn cs L a ccd cl outer) (PySem.call (.ref f) vs) Q E s
abbrev KS : Value → Prop := fun v => ∃ t, v = .str (Str.ofString "refused") t
abbrev KB (b : Bool) : Value → Prop := fun v => v = .bool b
theorem conK_str {k f : Nat} {vs : List Value} (C : ConK k f vs KS) {w : World} {mean : ExcName → Option Value} {mg mb : Str → Option Value} {dp un : Nat} {gd : Option (List Code)} {cn : Str} {cs : Scope} {a : Addr} {ccd : Value} {cl : List (Str × Addr)} {outer : List Env} {A₀ : Around} {base h₀ : Heap} {L : Addr} {m : Str → Option Value} {news : List (Addr × Obj)} {s : Shared} {Q E : Value → Shared → Prop}
    (B : Below A₀ base outer h₀) (F : Fr h₀ L s.heap m) (X : (KO w.params).In h₀) (N : News h₀ L s.heap news) (T : Top q0 Lo mean mg mb h₀) (XB : (KO w.params).In base) (TB : Top q0 Lo mean mg mb base) (D : KtsDicts (frs outer) h₀) (hk : cs.kind = .function) (hdp : dp + k < recursionLimit) (hu : un + 8 * k < cLine)
    (ret : ∀ t h₁ h' tk', KtsTurn (frs outer) h₀ h₁ → Fr h₁ L h' m → News h₁ L h' news → Below A₀ base outer h₁ → (KO w.params).In h₁ → Top q0 Lo mean mg mb h₁ → KtsDicts (frs outer) h₁ → Q (.str (Str.ofString "refused") t) { s with heap := h', toks := tk' }) :
    wpAny (model Challenge.rw_ja0024_01.row.prog w) (ktrTop dp un gd cn cs L a ccd cl outer) (PySem.call (.ref f) vs) Q E s := by
  refine C _ _ _ _ _ _ _ _ _ _ _ _ _ _ _ _ _ _ _ _ _ _ B F X N T XB TB D hk hdp hu ?_
  rintro v h₁ h' tk' ⟨t, rfl⟩ b0 b1 b2 b3 b4 b5 b6
  exact ret t h₁ h' tk' b0 b1 b2 b3 b4 b5 b6
theorem conK_bool {k f : Nat} {vs : List Value} {b : Bool} (C : ConK k f vs (KB b)) {w : World} {mean : ExcName → Option Value} {mg mb : Str → Option Value} {dp un : Nat} {gd : Option (List Code)} {cn : Str} {cs : Scope} {a : Addr} {ccd : Value} {cl : List (Str × Addr)} {outer : List Env} {A₀ : Around} {base h₀ : Heap} {L : Addr} {m : Str → Option Value} {news : List (Addr × Obj)} {s : Shared} {Q E : Value → Shared → Prop}
    (B : Below A₀ base outer h₀) (F : Fr h₀ L s.heap m) (X : (KO w.params).In h₀) (N : News h₀ L s.heap news) (T : Top q0 Lo mean mg mb h₀) (XB : (KO w.params).In base) (TB : Top q0 Lo mean mg mb base) (D : KtsDicts (frs outer) h₀) (hk : cs.kind = .function) (hdp : dp + k < recursionLimit) (hu : un + 8 * k < cLine)
    (ret : ∀ h₁ h' tk', KtsTurn (frs outer) h₀ h₁ → Fr h₁ L h' m → News h₁ L h' news → Below A₀ base outer h₁ → (KO w.params).In h₁ → Top q0 Lo mean mg mb h₁ → KtsDicts (frs outer) h₁ → Q (.bool b) { s with heap := h', toks := tk' }) :
    wpAny (model Challenge.rw_ja0024_01.row.prog w) (ktrTop dp un gd cn cs L a ccd cl outer) (PySem.call (.ref f) vs) Q E s := by
  refine C _ _ _ _ _ _ _ _ _ _ _ _ _ _ _ _ _ _ _ _ _ _ B F X N T XB TB D hk hdp hu ?_
  rintro v h₁ h' tk' rfl b0 b1 b2 b3 b4 b5 b6
  exact ret h₁ h' tk' b0 b1 b2 b3 b4 b5 b6
/-- a contract that leaves the frames alone is one that may turn them -/
theorem Con.toK {k f : Nat} {vs : List Value} {b : Bool} (C : Con k f vs (PB b)) : ConK k f vs (KB b) := by
  intro w mean mg mb dp un gd cn cs a ccd cl outer A₀ base h₀ L m news s Q E B F X N T XB TB D hk hd hu ret
  refine con_bool C B F X N T hk hd hu fun h' tk' F' N' => ?_
  exact ret _ h₀ h' tk' rfl KtsTurn.refl F' N' B X T D
-- part K1_b1
theorem ln_K1_b1_1 : True := by
  k_with_none
  (k_with "execs cons" => (k_here; (try dsimp only); k_gentoks))
  (k_with "execs nil" => (k_here; (try dsimp only); k_gentoks))
  (k_with "call builtin:str.format" => (k_here; (simp only [List.cons_append, List.nil_append]); walk_say "FMT ARGS"))
  (k_with "call ref" => (k_here; k_dflt (refine wpAny_call ?_; (refine' code_defS ?k1Zq ?k2Zq ?k3Zq ?k4Zq ?k5Zq ?XBZq ?TBZq ?DZq ?T0Zq ?kAZq ?k6Zq ?k7Zq ?k8Zq ?k9Zq ?kBZq ?_ ?cKZq ?c2Zq ?c3Zq ?c4Zq ?c5Zq; (case kAZq => exact rfl); (case k2Zq => k_asm); (case k1Zq => k_asm); (case XBZq => assumption); (case TBZq => assumption); (case DZq => assumption); (case T0Zq => exact KtsTurn.refl); (case k3Zq => k_asm); (case k4Zq => k_asm); (case k5Zq => k_asm); (case k6Zq => k_is); (case k7Zq => k_is); (case k8Zq => ktr_room); (case k9Zq => first | exact binds_K (by k_in) rfl (by k_is) rfl rfl rfl | exact BindsTo.of_eq rfl); (case kBZq => exact locs rfl); (case cKZq => exact rfl); (case c2Zq => exact rfl); (case c3Zq => exact rfl); (case c4Zq => exact rfl); (case c5Zq => decide); k_whole; intro g' L' h' FG' F' N' B' X' T' D'; (try dsimp only); (try k_lift B'); (try k_fold))); walk_say "INLINE S"))
  (k_with "call ref" => (k_here; k_dflt (refine' con_tup (c_mr _ _ _ _ ?p0Zq) ?k1Zq ?k2Zq ?k3Zq ?k4Zq ?k5Zq ?kKZq ?kdZq ?kuZq ?_; (case p0Zq => first | assumption | omega | l_fact | (simp_all; done) | (simp_all; omega)); (case k1Zq => k_asm); (case k2Zq => k_asm); (case k3Zq => k_asm); (case k4Zq => k_asm); (case k5Zq => k_asm); (case kKZq => first | exact rfl | assumption); (case kdZq => first | exact room_of (by assumption) (by rfl) | ktr_room); (case kuZq => first | exact units_of (by assumption) (by rfl) | ktr_units)); intro D9 t9 u9 n9 h9 tk9 F9 N9 l9; (try dsimp only); (try k_fold); walk_say "USE c_mr"))
  trivial
set_option maxHeartbeats 0 in
theorem k_nth_b1 (w m y : Int) (tw tm ty : Tok) (tn : Tok) (h0 : 1 ≤ m ∧ m ≤ 12) (h1 : 0 ≤ w ∧ w ≤ 6) (h2 : mrL y m < fkN y m w + (5 - 1) * 7)   : ConK 16 425 [.int 5 tn, .int w tw, .int m tm, .int y ty] KS := by
  have hun : fkN y m w = 1 + Int.fmod (w - mrF y m) 7 := rfl
  have hfk := fkN_b y m w
  have hml := mrL_bN y h0
  unfold ConK
  k_fill
  w_on
  intros; rename_i hret
  refine wpAny_call ?_
  k_dflt (refine' code_k ?k1 ?k2 ?k3 ?k4 ?k5 ?XB ?TB ?DD ?kA ?kF ?kK ?k6 ?k7 ?k8 ?k9 ?kB ?_ ?c2 ?c3 ?c4 ?c5; (case kA => exact rfl); (case kF => exact rfl); (case kK => assumption); (case k1 => k_asm); (case k2 => k_asm); (case k3 => k_asm); (case k4 => k_asm); (case k5 => k_asm); (case XB => assumption); (case TB => assumption); (case DD => assumption); (case k6 => k_is); (case k7 => k_is); (case k8 => first | exact Nat.lt_of_le_of_lt (Nat.le_add_right _ _) (by assumption) | ktr_room); (case k9 => first | exact BindsTo.of_eq rfl | exact binds_K (by k_in) rfl (by k_is) rfl rfl rfl); (case c5 => decide); (case kB => exact locs rfl); (case c2 => exact rfl); (case c3 => exact rfl); (case c4 => exact rfl); k_whole; intro g' L' h' F' N' B' X' T' D'; (try dsimp only); (try k_lift B'); (try k_fold))
  k_steps
  all_goals (k_dflt (refine' leaveT ?lvT ?lvF ?lvR; (case lvT => first | assumption | exact KtsTurn.refl); (case lvF => k_asm); (case lvR => intro h₁ b0 b1 b2 b3 b4 b5 b6; exact hret _ h₁ _ _ ⟨_, rfl⟩ b0 b1 b2 b3 b4 b5 b6)))
-- part K1_b2
theorem ln_K1_b2_1 : True := by
  k_with_none
  (k_with "execs cons" => (k_here; (try dsimp only); k_gentoks))
  (k_with "execs nil" => (k_here; (try dsimp only); k_gentoks))
  (k_with "call builtin:str.format" => (k_here; (simp only [List.cons_append, List.nil_append]); walk_say "FMT ARGS"))
  (k_with "call ref" => (k_here; k_dflt (refine wpAny_call ?_; (refine' code_defS ?k1Zq ?k2Zq ?k3Zq ?k4Zq ?k5Zq ?XBZq ?TBZq ?DZq ?T0Zq ?kAZq ?k6Zq ?k7Zq ?k8Zq ?k9Zq ?kBZq ?_ ?cKZq ?c2Zq ?c3Zq ?c4Zq ?c5Zq; (case kAZq => exact rfl); (case k2Zq => k_asm); (case k1Zq => k_asm); (case XBZq => assumption); (case TBZq => assumption); (case DZq => assumption); (case T0Zq => exact KtsTurn.refl); (case k3Zq => k_asm); (case k4Zq => k_asm); (case k5Zq => k_asm); (case k6Zq => k_is); (case k7Zq => k_is); (case k8Zq => ktr_room); (case k9Zq => first | exact binds_K (by k_in) rfl (by k_is) rfl rfl rfl | exact BindsTo.of_eq rfl); (case kBZq => exact locs rfl); (case cKZq => exact rfl); (case c2Zq => exact rfl); (case c3Zq => exact rfl); (case c4Zq => exact rfl); (case c5Zq => decide); k_whole; intro g' L' h' FG' F' N' B' X' T' D'; (try dsimp only); (try k_lift B'); (try k_fold))); walk_say "INLINE S"))
  trivial
set_option maxHeartbeats 0 in
theorem k_nth_b2 (w m y : Int) (tw tm ty : Tok) (tn : Tok) (h0 : 1 ≤ m ∧ m ≤ 12)   : ConK 16 425 [.int (-1) tn, .int w tw, .int m tm, .int y ty] KS := by
  unfold ConK
  k_fill
  w_on
  intros; rename_i hret
  refine wpAny_call ?_
  k_dflt (refine' code_k ?k1 ?k2 ?k3 ?k4 ?k5 ?XB ?TB ?DD ?kA ?kF ?kK ?k6 ?k7 ?k8 ?k9 ?kB ?_ ?c2 ?c3 ?c4 ?c5; (case kA => exact rfl); (case kF => exact rfl); (case kK => assumption); (case k1 => k_asm); (case k2 => k_asm); (case k3 => k_asm); (case k4 => k_asm); (case k5 => k_asm); (case XB => assumption); (case TB => assumption); (case DD => assumption); (case k6 => k_is); (case k7 => k_is); (case k8 => first | exact Nat.lt_of_le_of_lt (Nat.le_add_right _ _) (by assumption) | ktr_room); (case k9 => first | exact BindsTo.of_eq rfl | exact binds_K (by k_in) rfl (by k_is) rfl rfl rfl); (case c5 => decide); (case kB => exact locs rfl); (case c2 => exact rfl); (case c3 => exact rfl); (case c4 => exact rfl); k_whole; intro g' L' h' F' N' B' X' T' D'; (try dsimp only); (try k_lift B'); (try k_fold))
  k_steps
  all_goals (k_dflt (refine' leaveT ?lvT ?lvF ?lvR; (case lvT => first | assumption | exact KtsTurn.refl); (case lvF => k_asm); (case lvR => intro h₁ b0 b1 b2 b3 b4 b5 b6; exact hret _ h₁ _ _ ⟨_, rfl⟩ b0 b1 b2 b3 b4 b5 b6)))
-- part K1_b3
theorem ln_K1_b3_1 : True := by
  k_with_none
  (k_with "execs cons" => (k_here; (try dsimp only); k_gentoks))
  (k_with "execs nil" => (k_here; (try dsimp only); k_gentoks))
  (k_with "call builtin:str.format" => (k_here; (simp only [List.cons_append, List.nil_append]); walk_say "FMT ARGS"))
  (k_with "call ref" => (k_here; k_dflt (refine wpAny_call ?_; (refine' code_defS ?k1Zq ?k2Zq ?k3Zq ?k4Zq ?k5Zq ?XBZq ?TBZq ?DZq ?T0Zq ?kAZq ?k6Zq ?k7Zq ?k8Zq ?k9Zq ?kBZq ?_ ?cKZq ?c2Zq ?c3Zq ?c4Zq ?c5Zq; (case kAZq => exact rfl); (case k2Zq => k_asm); (case k1Zq => k_asm); (case XBZq => assumption); (case TBZq => assumption); (case DZq => assumption); (case T0Zq => exact KtsTurn.refl); (case k3Zq => k_asm); (case k4Zq => k_asm); (case k5Zq => k_asm); (case k6Zq => k_is); (case k7Zq => k_is); (case k8Zq => ktr_room); (case k9Zq => first | exact binds_K (by k_in) rfl (by k_is) rfl rfl rfl | exact BindsTo.of_eq rfl); (case kBZq => exact locs rfl); (case cKZq => exact rfl); (case c2Zq => exact rfl); (case c3Zq => exact rfl); (case c4Zq => exact rfl); (case c5Zq => decide); k_whole; intro g' L' h' FG' F' N' B' X' T' D'; (try dsimp only); (try k_lift B'); (try k_fold))); walk_say "INLINE S"))
  trivial
set_option maxHeartbeats 0 in
theorem k_nth_b3 (n w m y : Int) (tn tw tm ty : Tok) (h0 : 1 ≤ m ∧ m ≤ 12) (h1 : 0 ≤ n ∧ n ≤ 5) (h2 : w < 0 ∨ 6 < w)   : ConK 16 425 [.int n tn, .int w tw, .int m tm, .int y ty] KS := by
  unfold ConK
  k_fill
  w_on
  intros; rename_i hret
  refine wpAny_call ?_
  k_dflt (refine' code_k ?k1 ?k2 ?k3 ?k4 ?k5 ?XB ?TB ?DD ?kA ?kF ?kK ?k6 ?k7 ?k8 ?k9 ?kB ?_ ?c2 ?c3 ?c4 ?c5; (case kA => exact rfl); (case kF => exact rfl); (case kK => assumption); (case k1 => k_asm); (case k2 => k_asm); (case k3 => k_asm); (case k4 => k_asm); (case k5 => k_asm); (case XB => assumption); (case TB => assumption); (case DD => assumption); (case k6 => k_is); (case k7 => k_is); (case k8 => first | exact Nat.lt_of_le_of_lt (Nat.le_add_right _ _) (by assumption) | ktr_room); (case k9 => first | exact BindsTo.of_eq rfl | exact binds_K (by k_in) rfl (by k_is) rfl rfl rfl); (case c5 => decide); (case kB => exact locs rfl); (case c2 => exact rfl); (case c3 => exact rfl); (case c4 => exact rfl); k_whole; intro g' L' h' F' N' B' X' T' D'; (try dsimp only); (try k_lift B'); (try k_fold))
  k_steps
  all_goals (k_dflt (refine' leaveT ?lvT ?lvF ?lvR; (case lvT => first | assumption | exact KtsTurn.refl); (case lvF => k_asm); (case lvR => intro h₁ b0 b1 b2 b3 b4 b5 b6; exact hret _ h₁ _ _ ⟨_, rfl⟩ b0 b1 b2 b3 b4 b5 b6)))
-- part K1_b4
theorem ln_K1_b4_1 : True := by
  k_with_none
  (k_with "execs cons" => (k_here; (try dsimp only); k_gentoks))
  (k_with "execs nil" => (k_here; (try dsimp only); k_gentoks))
  (k_with "call builtin:str.format" => (k_here; (simp only [List.cons_append, List.nil_append]); walk_say "FMT ARGS"))
  (k_with "call ref" => (k_here; k_dflt (refine wpAny_call ?_; (refine' code_defS ?k1Zq ?k2Zq ?k3Zq ?k4Zq ?k5Zq ?XBZq ?TBZq ?DZq ?T0Zq ?kAZq ?k6Zq ?k7Zq ?k8Zq ?k9Zq ?kBZq ?_ ?cKZq ?c2Zq ?c3Zq ?c4Zq ?c5Zq; (case kAZq => exact rfl); (case k2Zq => k_asm); (case k1Zq => k_asm); (case XBZq => assumption); (case TBZq => assumption); (case DZq => assumption); (case T0Zq => exact KtsTurn.refl); (case k3Zq => k_asm); (case k4Zq => k_asm); (case k5Zq => k_asm); (case k6Zq => k_is); (case k7Zq => k_is); (case k8Zq => ktr_room); (case k9Zq => first | exact binds_K (by k_in) rfl (by k_is) rfl rfl rfl | exact BindsTo.of_eq rfl); (case kBZq => exact locs rfl); (case cKZq => exact rfl); (case c2Zq => exact rfl); (case c3Zq => exact rfl); (case c4Zq => exact rfl); (case c5Zq => decide); k_whole; intro g' L' h' FG' F' N' B' X' T' D'; (try dsimp only); (try k_lift B'); (try k_fold))); walk_say "INLINE S"))
  trivial
set_option maxHeartbeats 0 in
theorem k_nth_b4 (w m y : Int) (tw tm ty : Tok) (tn : Tok) (h0 : 1 ≤ m ∧ m ≤ 12)   : ConK 16 425 [.int 6 tn, .int w tw, .int m tm, .int y ty] KS := by
  unfold ConK
  k_fill
  w_on
  intros; rename_i hret
  refine wpAny_call ?_
  k_dflt (refine' code_k ?k1 ?k2 ?k3 ?k4 ?k5 ?XB ?TB ?DD ?kA ?kF ?kK ?k6 ?k7 ?k8 ?k9 ?kB ?_ ?c2 ?c3 ?c4 ?c5; (case kA => exact rfl); (case kF => exact rfl); (case kK => assumption); (case k1 => k_asm); (case k2 => k_asm); (case k3 => k_asm); (case k4 => k_asm); (case k5 => k_asm); (case XB => assumption); (case TB => assumption); (case DD => assumption); (case k6 => k_is); (case k7 => k_is); (case k8 => first | exact Nat.lt_of_le_of_lt (Nat.le_add_right _ _) (by assumption) | ktr_room); (case k9 => first | exact BindsTo.of_eq rfl | exact binds_K (by k_in) rfl (by k_is) rfl rfl rfl); (case c5 => decide); (case kB => exact locs rfl); (case c2 => exact rfl); (case c3 => exact rfl); (case c4 => exact rfl); k_whole; intro g' L' h' F' N' B' X' T' D'; (try dsimp only); (try k_lift B'); (try k_fold))
  k_steps
  all_goals (k_dflt (refine' leaveT ?lvT ?lvF ?lvR; (case lvT => first | assumption | exact KtsTurn.refl); (case lvF => k_asm); (case lvR => intro h₁ b0 b1 b2 b3 b4 b5 b6; exact hret _ h₁ _ _ ⟨_, rfl⟩ b0 b1 b2 b3 b4 b5 b6)))
-- part L3
theorem ln_L3_1 : True := by
  k_with_none
  (k_with "execs cons" => (k_here; (try dsimp only); k_gentoks))
  (k_with "execs nil" => (k_here; (try dsimp only); k_gentoks))
  (k_with "call ref" => (k_here; k_dflt (refine' con_bool (c_isleap _ _) ?k1Zq ?k2Zq ?k3Zq ?k4Zq ?k5Zq ?kKZq ?kdZq ?kuZq ?_; (case k1Zq => k_asm); (case k2Zq => k_asm); (case k3Zq => k_asm); (case k4Zq => k_asm); (case k5Zq => k_asm); (case kKZq => first | exact rfl | assumption); (case kdZq => first | exact room_of (by assumption) (by rfl) | ktr_room); (case kuZq => first | exact units_of (by assumption) (by rfl) | ktr_units)); intro h9 tk9 F9 N9; (try dsimp only); (try k_fold); walk_say "USE c_isleap"))
  (k_with "call ref" => (k_here; k_dflt (refine' con_bool (c_leapA _ _ ?p0Zq) ?k1Zq ?k2Zq ?k3Zq ?k4Zq ?k5Zq ?kKZq ?kdZq ?kuZq ?_; (case p0Zq => first | assumption | omega | l_fact | (simp_all; done) | (simp_all; omega)); (case k1Zq => k_asm); (case k2Zq => k_asm); (case k3Zq => k_asm); (case k4Zq => k_asm); (case k5Zq => k_asm); (case kKZq => first | exact rfl | assumption); (case kdZq => first | exact room_of (by assumption) (by rfl) | ktr_room); (case kuZq => first | exact units_of (by assumption) (by rfl) | ktr_units)); intro h9 tk9 F9 N9; (try dsimp only); (try k_fold); walk_say "USE c_leapA"))
  (k_with "call ref" => (k_here; k_dflt (refine' con_bool (c_legalG _ _ _ _ _ _ ?p0Zq) ?k1Zq ?k2Zq ?k3Zq ?k4Zq ?k5Zq ?kKZq ?kdZq ?kuZq ?_; (case p0Zq => first | assumption | omega | l_fact | (simp_all; done) | (simp_all; omega)); (case k1Zq => k_asm); (case k2Zq => k_asm); (case k3Zq => k_asm); (case k4Zq => k_asm); (case k5Zq => k_asm); (case kKZq => first | exact rfl | assumption); (case kdZq => first | exact room_of (by assumption) (by rfl) | ktr_room); (case kuZq => first | exact units_of (by assumption) (by rfl) | ktr_units)); intro h9 tk9 F9 N9; (try dsimp only); (try k_fold); walk_say "USE c_legalG"))
  (k_with "call ref" => (k_here; k_dflt (refine' con_int (c_mlJ _ _ _ _) ?k1Zq ?k2Zq ?k3Zq ?k4Zq ?k5Zq ?kKZq ?kdZq ?kuZq ?_; (case k1Zq => k_asm); (case k2Zq => k_asm); (case k3Zq => k_asm); (case k4Zq => k_asm); (case k5Zq => k_asm); (case kKZq => first | exact rfl | assumption); (case kdZq => first | exact room_of (by assumption) (by rfl) | ktr_room); (case kuZq => first | exact units_of (by assumption) (by rfl) | ktr_units)); intro t9 h9 tk9 F9 N9; (try dsimp only); (try k_fold); walk_say "USE c_mlJ"))
  (k_with "call ref" => (k_here; k_dflt (refine' con_tup (c_mr _ _ _ _ ?p0Zq) ?k1Zq ?k2Zq ?k3Zq ?k4Zq ?k5Zq ?kKZq ?kdZq ?kuZq ?_; (case p0Zq => first | assumption | omega | l_fact | (simp_all; done) | (simp_all; omega)); (case k1Zq => k_asm); (case k2Zq => k_asm); (case k3Zq => k_asm); (case k4Zq => k_asm); (case k5Zq => k_asm); (case kKZq => first | exact rfl | assumption); (case kdZq => first | exact room_of (by assumption) (by rfl) | ktr_room); (case kuZq => first | exact units_of (by assumption) (by rfl) | ktr_units)); intro D9 t9 u9 n9 h9 tk9 F9 N9 l9; (try dsimp only); (try k_fold); walk_say "USE c_mr"))
  trivial
theorem jdG_a {y m d : Int} (h : m ≤ 2) : 1721426 - 1 + 365 * (y - 1) + Int.fdiv (y - 1) 4 + -(Int.fdiv (y - 1) 100) + Int.fdiv (y - 1) 400 + (Int.fdiv (367 * m - 362) 12 + 0 + d) = jdG y m d := by
  unfold jdG adjG; rw [if_pos h]
theorem jdG_b {y m d : Int} (h : ¬ m ≤ 2) (h2 : leapG y = true) : 1721426 - 1 + 365 * (y - 1) + Int.fdiv (y - 1) 4 + -(Int.fdiv (y - 1) 100) + Int.fdiv (y - 1) 400 + (Int.fdiv (367 * m - 362) 12 + -1 + d) = jdG y m d := by
  unfold jdG adjG; rw [if_neg h, if_pos h2]
theorem jdG_c {y m d : Int} (h : ¬ m ≤ 2) (h2 : leapG y = false) : 1721426 - 1 + 365 * (y - 1) + Int.fdiv (y - 1) 4 + -(Int.fdiv (y - 1) 100) + Int.fdiv (y - 1) 400 + (Int.fdiv (367 * m - 362) 12 + -2 + d) = jdG y m d := by
  unfold jdG adjG; rw [if_neg h, if_neg (by rw [h2]; decide)]
theorem mlJ_b (y m : Int) : 28 ≤ mlJ y m ∧ mlJ y m ≤ 31 := by unfold mlJ; (repeat' split) <;> omega
def jan (y : Int) : Int := 1721426 + 146097 * (y - 1).fdiv 400 + 365 * (y - 1).fmod 400 + ((y - 1).fmod 400).fdiv 4 - ((y - 1).fmod 400).fdiv 100
def mlS (y m : Int) : Int := if m = 13 then (if Int.fmod y 4 = 0 then 6 else 5) else 30
theorem mlS_a {y m : Int} (h : m = 13) (h2 : Int.fmod y 4 = 0) : 6 = mlS y m := by unfold mlS; rw [if_pos h, if_pos h2]
theorem mlS_b {y m : Int} (h : m = 13) (h2 : Int.fmod y 4 ≠ 0) : 5 = mlS y m := by unfold mlS; rw [if_pos h, if_neg h2]
theorem mlS_c {y m : Int} (h : m ≠ 13) : 30 = mlS y m := by unfold mlS; rw [if_neg h]
def jdD (y m : Int) : Int := jdG (y + 78) 3 (22 - if leapG (y + 78) = true then 1 else 0) + (if leapG (y + 78) = true then 31 else 30) + (if 5 < m - 2 then 5 else m - 2) * 31 + (if 8 ≤ m then (m - 7) * 30 else 0)
theorem jdD_a {y m : Int} (h : leapG (y + 78) = true) (h8 : 8 ≤ m) : jdG (y + 78) 3 (22 - if leapG (y + 78) = true then 1 else 0) + 31 + (if 5 < m - 2 then 5 else m - 2) * 31 + (m - 7) * 30 + (1 - 1) = jdD y m := by
  unfold jdD; rw [show (if leapG (y + 78) = true then (31 : Int) else 30) = 31 from if_pos h, if_pos h8]; omega
theorem jdD_b {y m : Int} (h : leapG (y + 78) = true) (h8 : ¬ 8 ≤ m) : jdG (y + 78) 3 (22 - if leapG (y + 78) = true then 1 else 0) + 31 + (if 5 < m - 2 then 5 else m - 2) * 31 + (1 - 1) = jdD y m := by
  unfold jdD; rw [show (if leapG (y + 78) = true then (31 : Int) else 30) = 31 from if_pos h, if_neg h8]; omega
theorem jdD_c {y m : Int} (h : leapG (y + 78) = false) (h8 : 8 ≤ m) : jdG (y + 78) 3 (22 - if leapG (y + 78) = true then 1 else 0) + 30 + (if 5 < m - 2 then 5 else m - 2) * 31 + (m - 7) * 30 + (1 - 1) = jdD y m := by
  unfold jdD; rw [show (if leapG (y + 78) = true then (31 : Int) else 30) = 30 from if_neg (by rw [h]; decide), if_pos h8]; omega
theorem jdD_d {y m : Int} (h : leapG (y + 78) = false) (h8 : ¬ 8 ≤ m) : jdG (y + 78) 3 (22 - if leapG (y + 78) = true then 1 else 0) + 30 + (if 5 < m - 2 then 5 else m - 2) * 31 + (1 - 1) = jdD y m := by
  unfold jdD; rw [show (if leapG (y + 78) = true then (31 : Int) else 30) = 30 from if_neg (by rw [h]; decide), if_neg h8]; omega
def jdJ (y m d : Int) : Int := if m ≤ 2 then Int.fdiv (1461 * (y - 1 + 4716)) 4 + Int.fdiv (306001 * (m + 12 + 1)) 10000 + d - 1524 else Int.fdiv (1461 * (y + 4716)) 4 + Int.fdiv (306001 * (m + 1)) 10000 + d - 1524
set_option maxHeartbeats 0 in
theorem c_jdG (y m d : Int) (ty tm td : Tok) (h0 : 1 ≤ d ∧ d ≤ 28) : Con 6 133 [.int y ty, .int m tm, .int d td] (PI (jdG y m d)) := by
  unfold Con
  k_fill
  w_on
  intros; rename_i hret
  refine wpAny_call ?_
  k_dflt (refine' code_p ?k1 ?k2 ?k3 ?k4 ?k5 ?kA ?kF ?kK ?k6 ?k7 ?k8 ?k9 ?kB ?_ ?c2 ?c3 ?c4 ?c5; (case kA => exact rfl); (case kF => exact rfl); (case kK => assumption); (case k1 => k_asm); (case k2 => k_asm); (case k3 => k_asm); (case k4 => k_asm); (case k5 => k_asm); (case k6 => k_is); (case k7 => k_is); (case k8 => first | exact Nat.lt_of_le_of_lt (Nat.le_add_right _ _) (by assumption) | ktr_room); (case k9 => first | exact BindsTo.of_eq rfl | exact binds_K (by k_in) rfl (by k_is) rfl rfl rfl); (case c5 => decide); (case kB => exact locs rfl); (case c2 => exact rfl); (case c3 => exact rfl); (case c4 => exact rfl); k_whole; intro g' L' h' FG' F' N' B' X' T'; (try dsimp only); (try k_lift B'); (try k_fold))
  k_steps
  all_goals (refine hret _ [] _ _ ⟨rfl, _, congrArg (Value.int · _) ?_⟩ (by k_asm) ((by assumption : ∀ tl, News _ _ _ tl → News _ _ _ (tl ++ _)) [] News.nil) (fun _ h => nomatch h))
  all_goals (first | exact jdG_a (by assumption) | exact jdG_b (by assumption) (by assumption) | exact jdG_c (by assumption) (by assumption))
theorem ln_L3_2 : True := by
  (k_with "call ref" => (k_here; k_dflt (refine' con_int (c_jdG _ _ _ _ _ _ ?p0Zq) ?k1Zq ?k2Zq ?k3Zq ?k4Zq ?k5Zq ?kKZq ?kdZq ?kuZq ?_; (case p0Zq => first | assumption | omega | l_fact | (simp_all; done) | (simp_all; omega)); (case k1Zq => k_asm); (case k2Zq => k_asm); (case k3Zq => k_asm); (case k4Zq => k_asm); (case k5Zq => k_asm); (case kKZq => first | exact rfl | assumption); (case kdZq => first | exact room_of (by assumption) (by rfl) | ktr_room); (case kuZq => first | exact units_of (by assumption) (by rfl) | ktr_units)); intro t9 h9 tk9 F9 N9; (try dsimp only); (try k_fold); walk_say "USE c_jdG"))
  trivial
set_option maxHeartbeats 0 in
theorem c_mlG (y m : Int) (ty tm : Tok) (h0 : 1 ≤ m ∧ m ≤ 12) : Con 6 140 [.int y ty, .int m tm] (PI (mrL y m)) := by
  unfold Con
  k_fill
  w_on
  intros; rename_i hret
  refine wpAny_call ?_
  k_dflt (refine' code_p ?k1 ?k2 ?k3 ?k4 ?k5 ?kA ?kF ?kK ?k6 ?k7 ?k8 ?k9 ?kB ?_ ?c2 ?c3 ?c4 ?c5; (case kA => exact rfl); (case kF => exact rfl); (case kK => assumption); (case k1 => k_asm); (case k2 => k_asm); (case k3 => k_asm); (case k4 => k_asm); (case k5 => k_asm); (case k6 => k_is); (case k7 => k_is); (case k8 => first | exact Nat.lt_of_le_of_lt (Nat.le_add_right _ _) (by assumption) | ktr_room); (case k9 => first | exact BindsTo.of_eq rfl | exact binds_K (by k_in) rfl (by k_is) rfl rfl rfl); (case c5 => decide); (case kB => exact locs rfl); (case c2 => exact rfl); (case c3 => exact rfl); (case c4 => exact rfl); k_whole; intro g' L' h' FG' F' N' B' X' T'; (try dsimp only); (try k_lift B'); (try k_fold))
  k_steps
  all_goals (refine hret _ [] _ _ ⟨rfl, _, congrArg (Value.int · _) ?_⟩ (by k_asm) ((by assumption : ∀ tl, News _ _ _ tl → News _ _ _ (tl ++ _)) [] News.nil) (fun _ h => nomatch h))
  all_goals rfl
set_option maxHeartbeats 0 in
theorem c_legalJ (y m : Int) (ty tm : Tok) (td : Tok)  : Con 6 169 [.int y ty, .int m tm, .int 1 td] (PB (true)) := by
  unfold Con
  k_fill
  w_on
  intros; rename_i hret
  refine wpAny_call ?_
  k_dflt (refine' code_p ?k1 ?k2 ?k3 ?k4 ?k5 ?kA ?kF ?kK ?k6 ?k7 ?k8 ?k9 ?kB ?_ ?c2 ?c3 ?c4 ?c5; (case kA => exact rfl); (case kF => exact rfl); (case kK => assumption); (case k1 => k_asm); (case k2 => k_asm); (case k3 => k_asm); (case k4 => k_asm); (case k5 => k_asm); (case k6 => k_is); (case k7 => k_is); (case k8 => first | exact Nat.lt_of_le_of_lt (Nat.le_add_right _ _) (by assumption) | ktr_room); (case k9 => first | exact BindsTo.of_eq rfl | exact binds_K (by k_in) rfl (by k_is) rfl rfl rfl); (case c5 => decide); (case kB => exact locs rfl); (case c2 => exact rfl); (case c3 => exact rfl); (case c4 => exact rfl); k_whole; intro g' L' h' FG' F' N' B' X' T'; (try dsimp only); (try k_lift B'); (try k_fold))
  have hml := mlJ_b y m
  k_steps
  all_goals (refine hret _ [] _ _ ⟨rfl, congrArg Value.bool ?_⟩ (by k_asm) ((by assumption : ∀ tl, News _ _ _ tl → News _ _ _ (tl ++ _)) [] News.nil) (fun _ h => nomatch h))
  all_goals (rfl)
theorem ln_L3_3 : True := by
  (k_with "call ref" => (k_here; k_dflt (refine' con_bool (c_legalJ _ _ _ _ _) ?k1Zq ?k2Zq ?k3Zq ?k4Zq ?k5Zq ?kKZq ?kdZq ?kuZq ?_; (case k1Zq => k_asm); (case k2Zq => k_asm); (case k3Zq => k_asm); (case k4Zq => k_asm); (case k5Zq => k_asm); (case kKZq => first | exact rfl | assumption); (case kdZq => first | exact room_of (by assumption) (by rfl) | ktr_room); (case kuZq => first | exact units_of (by assumption) (by rfl) | ktr_units)); intro h9 tk9 F9 N9; (try dsimp only); (try k_fold); walk_say "USE c_legalJ"))
  trivial
set_option maxHeartbeats 0 in
theorem c_jdJ (y m : Int) (ty tm : Tok) (td : Tok)  : Con 8 176 [.int y ty, .int m tm, .int 1 td] (PI (jdJ y m 1)) := by
  unfold Con
  k_fill
  w_on
  intros; rename_i hret
  refine wpAny_call ?_
  k_dflt (refine' code_p ?k1 ?k2 ?k3 ?k4 ?k5 ?kA ?kF ?kK ?k6 ?k7 ?k8 ?k9 ?kB ?_ ?c2 ?c3 ?c4 ?c5; (case kA => exact rfl); (case kF => exact rfl); (case kK => assumption); (case k1 => k_asm); (case k2 => k_asm); (case k3 => k_asm); (case k4 => k_asm); (case k5 => k_asm); (case k6 => k_is); (case k7 => k_is); (case k8 => first | exact Nat.lt_of_le_of_lt (Nat.le_add_right _ _) (by assumption) | ktr_room); (case k9 => first | exact BindsTo.of_eq rfl | exact binds_K (by k_in) rfl (by k_is) rfl rfl rfl); (case c5 => decide); (case kB => exact locs rfl); (case c2 => exact rfl); (case c3 => exact rfl); (case c4 => exact rfl); k_whole; intro g' L' h' FG' F' N' B' X' T'; (try dsimp only); (try k_lift B'); (try k_fold))
  k_steps
  all_goals (refine hret _ [] _ _ ⟨rfl, _, congrArg (Value.int · _) ?_⟩ (by k_asm) ((by assumption : ∀ tl, News _ _ _ tl → News _ _ _ (tl ++ _)) [] News.nil) (fun _ h => nomatch h))
  all_goals (first | exact (if_pos (by assumption)).symm | exact (if_neg (by assumption)).symm)
set_option maxHeartbeats 0 in
theorem c_validA (y m : Int) (ty tm : Tok) (td : Tok) (h0 : 533 ≤ y) (h1 : 1 ≤ m ∧ m ≤ 13) : Con 8 191 [.int y ty, .int m tm, .int 1 td, .none] (PB (true)) := by
  unfold Con
  k_fill
  w_on
  intros; rename_i hret
  refine wpAny_call ?_
  k_dflt (refine' code_p ?k1 ?k2 ?k3 ?k4 ?k5 ?kA ?kF ?kK ?k6 ?k7 ?k8 ?k9 ?kB ?_ ?c2 ?c3 ?c4 ?c5; (case kA => exact rfl); (case kF => exact rfl); (case kK => assumption); (case k1 => k_asm); (case k2 => k_asm); (case k3 => k_asm); (case k4 => k_asm); (case k5 => k_asm); (case k6 => k_is); (case k7 => k_is); (case k8 => first | exact Nat.lt_of_le_of_lt (Nat.le_add_right _ _) (by assumption) | ktr_room); (case k9 => first | exact BindsTo.of_eq rfl | exact binds_K (by k_in) rfl (by k_is) rfl rfl rfl); (case c5 => decide); (case kB => exact locs rfl); (case c2 => exact rfl); (case c3 => exact rfl); (case c4 => exact rfl); k_whole; intro g' L' h' FG' F' N' B' X' T'; (try dsimp only); (try k_lift B'); (try k_fold))
  k_steps
  all_goals (refine hret _ [] _ _ ⟨rfl, congrArg Value.bool ?_⟩ (by k_asm) ((by assumption : ∀ tl, News _ _ _ tl → News _ _ _ (tl ++ _)) [] News.nil) (fun _ h => nomatch h))
  all_goals (rfl)
theorem ln_L3_4 : True := by
  (k_with "call ref" => (k_here; k_dflt (refine' con_bool (c_validA _ _ _ _ _ ?p0Zq ?p1Zq) ?k1Zq ?k2Zq ?k3Zq ?k4Zq ?k5Zq ?kKZq ?kdZq ?kuZq ?_; (case p0Zq => first | assumption | omega | l_fact | (simp_all; done) | (simp_all; omega)); (case p1Zq => first | assumption | omega | l_fact | (simp_all; done) | (simp_all; omega)); (case k1Zq => k_asm); (case k2Zq => k_asm); (case k3Zq => k_asm); (case k4Zq => k_asm); (case k5Zq => k_asm); (case kKZq => first | exact rfl | assumption); (case kdZq => first | exact room_of (by assumption) (by rfl) | ktr_room); (case kuZq => first | exact units_of (by assumption) (by rfl) | ktr_units)); intro h9 tk9 F9 N9; (try dsimp only); (try k_fold); walk_say "USE c_validA"))
  trivial
set_option maxHeartbeats 0 in
theorem c_validS (y m : Int) (ty tm : Tok) (td tz : Tok) (h0 : 533 ≤ y) (h1 : 1 ≤ m ∧ m ≤ 13) : Con 8 191 [.int y ty, .int m tm, .int 1 td, .str (Str.ofString "sarkawag") tz] (PB (true)) := by
  unfold Con
  k_fill
  w_on
  intros; rename_i hret
  refine wpAny_call ?_
  k_dflt (refine' code_p ?k1 ?k2 ?k3 ?k4 ?k5 ?kA ?kF ?kK ?k6 ?k7 ?k8 ?k9 ?kB ?_ ?c2 ?c3 ?c4 ?c5; (case kA => exact rfl); (case kF => exact rfl); (case kK => assumption); (case k1 => k_asm); (case k2 => k_asm); (case k3 => k_asm); (case k4 => k_asm); (case k5 => k_asm); (case k6 => k_is); (case k7 => k_is); (case k8 => first | exact Nat.lt_of_le_of_lt (Nat.le_add_right _ _) (by assumption) | ktr_room); (case k9 => first | exact BindsTo.of_eq rfl | exact binds_K (by k_in) rfl (by k_is) rfl rfl rfl); (case c5 => decide); (case kB => exact locs rfl); (case c2 => exact rfl); (case c3 => exact rfl); (case c4 => exact rfl); k_whole; intro g' L' h' FG' F' N' B' X' T'; (try dsimp only); (try k_lift B'); (try k_fold))
  k_steps
  all_goals (refine hret _ [] _ _ ⟨rfl, congrArg Value.bool ?_⟩ (by k_asm) ((by assumption : ∀ tl, News _ _ _ tl → News _ _ _ (tl ++ _)) [] News.nil) (fun _ h => nomatch h))
  all_goals (rfl)
set_option maxHeartbeats 0 in
theorem c_jan (y : Int) (ty : Tok)  : Con 8 399 [.int y ty] (PI (jan y)) := by
  unfold Con
  k_fill
  w_on
  intros; rename_i hret
  refine wpAny_call ?_
  k_dflt (refine' code_p ?k1 ?k2 ?k3 ?k4 ?k5 ?kA ?kF ?kK ?k6 ?k7 ?k8 ?k9 ?kB ?_ ?c2 ?c3 ?c4 ?c5; (case kA => exact rfl); (case kF => exact rfl); (case kK => assumption); (case k1 => k_asm); (case k2 => k_asm); (case k3 => k_asm); (case k4 => k_asm); (case k5 => k_asm); (case k6 => k_is); (case k7 => k_is); (case k8 => first | exact Nat.lt_of_le_of_lt (Nat.le_add_right _ _) (by assumption) | ktr_room); (case k9 => first | exact BindsTo.of_eq rfl | exact binds_K (by k_in) rfl (by k_is) rfl rfl rfl); (case c5 => decide); (case kB => exact locs rfl); (case c2 => exact rfl); (case c3 => exact rfl); (case c4 => exact rfl); k_whole; intro g' L' h' FG' F' N' B' X' T'; (try dsimp only); (try k_lift B'); (try k_fold))
  k_steps
  all_goals (refine hret _ [] _ _ ⟨rfl, _, congrArg (Value.int · _) ?_⟩ (by k_asm) ((by assumption : ∀ tl, News _ _ _ tl → News _ _ _ (tl ++ _)) [] News.nil) (fun _ h => nomatch h))
  all_goals rfl
set_option maxHeartbeats 0 in
theorem c_mlA (y m : Int) (ty tm : Tok) (h0 : 1 ≤ m ∧ m ≤ 13) : Con 8 214 [.int y ty, .int m tm] (PI (if m = 13 then 5 else 30)) := by
  unfold Con
  k_fill
  w_on
  intros; rename_i hret
  refine wpAny_call ?_
  k_dflt (refine' code_p ?k1 ?k2 ?k3 ?k4 ?k5 ?kA ?kF ?kK ?k6 ?k7 ?k8 ?k9 ?kB ?_ ?c2 ?c3 ?c4 ?c5; (case kA => exact rfl); (case kF => exact rfl); (case kK => assumption); (case k1 => k_asm); (case k2 => k_asm); (case k3 => k_asm); (case k4 => k_asm); (case k5 => k_asm); (case k6 => k_is); (case k7 => k_is); (case k8 => first | exact Nat.lt_of_le_of_lt (Nat.le_add_right _ _) (by assumption) | ktr_room); (case k9 => first | exact BindsTo.of_eq rfl | exact binds_K (by k_in) rfl (by k_is) rfl rfl rfl); (case c5 => decide); (case kB => exact locs rfl); (case c2 => exact rfl); (case c3 => exact rfl); (case c4 => exact rfl); k_whole; intro g' L' h' FG' F' N' B' X' T'; (try dsimp only); (try k_lift B'); (try k_fold))
  k_steps
  all_goals (refine hret _ [] _ _ ⟨rfl, _, congrArg (Value.int · _) ?_⟩ (by k_asm) ((by assumption : ∀ tl, News _ _ _ tl → News _ _ _ (tl ++ _)) [] News.nil) (fun _ h => nomatch h))
  all_goals (first | exact (if_pos (by assumption)).symm | exact (if_neg (by assumption)).symm)
set_option maxHeartbeats 0 in
theorem c_mlA3 (y m : Int) (ty tm : Tok) (h0 : 1 ≤ m ∧ m ≤ 13) : Con 8 214 [.int y ty, .int m tm, .none] (PI (if m = 13 then 5 else 30)) := by
  unfold Con
  k_fill
  w_on
  intros; rename_i hret
  refine wpAny_call ?_
  k_dflt (refine' code_p ?k1 ?k2 ?k3 ?k4 ?k5 ?kA ?kF ?kK ?k6 ?k7 ?k8 ?k9 ?kB ?_ ?c2 ?c3 ?c4 ?c5; (case kA => exact rfl); (case kF => exact rfl); (case kK => assumption); (case k1 => k_asm); (case k2 => k_asm); (case k3 => k_asm); (case k4 => k_asm); (case k5 => k_asm); (case k6 => k_is); (case k7 => k_is); (case k8 => first | exact Nat.lt_of_le_of_lt (Nat.le_add_right _ _) (by assumption) | ktr_room); (case k9 => first | exact BindsTo.of_eq rfl | exact binds_K (by k_in) rfl (by k_is) rfl rfl rfl); (case c5 => decide); (case kB => exact locs rfl); (case c2 => exact rfl); (case c3 => exact rfl); (case c4 => exact rfl); k_whole; intro g' L' h' FG' F' N' B' X' T'; (try dsimp only); (try k_lift B'); (try k_fold))
  k_steps
  all_goals (refine hret _ [] _ _ ⟨rfl, _, congrArg (Value.int · _) ?_⟩ (by k_asm) ((by assumption : ∀ tl, News _ _ _ tl → News _ _ _ (tl ++ _)) [] News.nil) (fun _ h => nomatch h))
  all_goals (first | exact (if_pos (by assumption)).symm | exact (if_neg (by assumption)).symm)
set_option maxHeartbeats 0 in
theorem c_mlS (y m : Int) (ty tm : Tok) (tz : Tok) (h0 : 533 ≤ y) (h1 : 1 ≤ m ∧ m ≤ 13) : Con 8 214 [.int y ty, .int m tm, .str (Str.ofString "sarkawag") tz] (PI (mlS y m)) := by
  unfold Con
  k_fill
  w_on
  intros; rename_i hret
  refine wpAny_call ?_
  k_dflt (refine' code_p ?k1 ?k2 ?k3 ?k4 ?k5 ?kA ?kF ?kK ?k6 ?k7 ?k8 ?k9 ?kB ?_ ?c2 ?c3 ?c4 ?c5; (case kA => exact rfl); (case kF => exact rfl); (case kK => assumption); (case k1 => k_asm); (case k2 => k_asm); (case k3 => k_asm); (case k4 => k_asm); (case k5 => k_asm); (case k6 => k_is); (case k7 => k_is); (case k8 => first | exact Nat.lt_of_le_of_lt (Nat.le_add_right _ _) (by assumption) | ktr_room); (case k9 => first | exact BindsTo.of_eq rfl | exact binds_K (by k_in) rfl (by k_is) rfl rfl rfl); (case c5 => decide); (case kB => exact locs rfl); (case c2 => exact rfl); (case c3 => exact rfl); (case c4 => exact rfl); k_whole; intro g' L' h' FG' F' N' B' X' T'; (try dsimp only); (try k_lift B'); (try k_fold))
  k_steps
  all_goals (refine hret _ [] _ _ ⟨rfl, _, congrArg (Value.int · _) ?_⟩ (by k_asm) ((by assumption : ∀ tl, News _ _ _ tl → News _ _ _ (tl ++ _)) [] News.nil) (fun _ h => nomatch h))
  all_goals (first | exact mlS_a (by assumption) (by assumption) | exact mlS_b (by assumption) (by assumption) | exact mlS_c (by assumption))
set_option maxHeartbeats 0 in
theorem c_jdA (y m : Int) (ty tm : Tok) (td : Tok) (h0 : 533 ≤ y) (h1 : 1 ≤ m ∧ m ≤ 13) : Con 12 206 [.int y ty, .int m tm, .int 1 td] (PI (1922502 + 365 * y + ((m - 1) * 30 + 1))) := by
  unfold Con
  k_fill
  w_on
  intros; rename_i hret
  refine wpAny_call ?_
  k_dflt (refine' code_p ?k1 ?k2 ?k3 ?k4 ?k5 ?kA ?kF ?kK ?k6 ?k7 ?k8 ?k9 ?kB ?_ ?c2 ?c3 ?c4 ?c5; (case kA => exact rfl); (case kF => exact rfl); (case kK => assumption); (case k1 => k_asm); (case k2 => k_asm); (case k3 => k_asm); (case k4 => k_asm); (case k5 => k_asm); (case k6 => k_is); (case k7 => k_is); (case k8 => first | exact Nat.lt_of_le_of_lt (Nat.le_add_right _ _) (by assumption) | ktr_room); (case k9 => first | exact BindsTo.of_eq rfl | exact binds_K (by k_in) rfl (by k_is) rfl rfl rfl); (case c5 => decide); (case kB => exact locs rfl); (case c2 => exact rfl); (case c3 => exact rfl); (case c4 => exact rfl); k_whole; intro g' L' h' FG' F' N' B' X' T'; (try dsimp only); (try k_lift B'); (try k_fold))
  k_steps
  all_goals (refine hret _ [] _ _ ⟨rfl, _, congrArg (Value.int · _) ?_⟩ (by k_asm) ((by assumption : ∀ tl, News _ _ _ tl → News _ _ _ (tl ++ _)) [] News.nil) (fun _ h => nomatch h))
  all_goals rfl
set_option maxHeartbeats 0 in
theorem c_jdA4 (y m : Int) (ty tm : Tok) (td : Tok) (h0 : 533 ≤ y) (h1 : 1 ≤ m ∧ m ≤ 13) : Con 12 206 [.int y ty, .int m tm, .int 1 td, .none] (PI (1922502 + 365 * y + ((m - 1) * 30 + 1))) := by
  unfold Con
  k_fill
  w_on
  intros; rename_i hret
  refine wpAny_call ?_
  k_dflt (refine' code_p ?k1 ?k2 ?k3 ?k4 ?k5 ?kA ?kF ?kK ?k6 ?k7 ?k8 ?k9 ?kB ?_ ?c2 ?c3 ?c4 ?c5; (case kA => exact rfl); (case kF => exact rfl); (case kK => assumption); (case k1 => k_asm); (case k2 => k_asm); (case k3 => k_asm); (case k4 => k_asm); (case k5 => k_asm); (case k6 => k_is); (case k7 => k_is); (case k8 => first | exact Nat.lt_of_le_of_lt (Nat.le_add_right _ _) (by assumption) | ktr_room); (case k9 => first | exact BindsTo.of_eq rfl | exact binds_K (by k_in) rfl (by k_is) rfl rfl rfl); (case c5 => decide); (case kB => exact locs rfl); (case c2 => exact rfl); (case c3 => exact rfl); (case c4 => exact rfl); k_whole; intro g' L' h' FG' F' N' B' X' T'; (try dsimp only); (try k_lift B'); (try k_fold))
  k_steps
  all_goals (refine hret _ [] _ _ ⟨rfl, _, congrArg (Value.int · _) ?_⟩ (by k_asm) ((by assumption : ∀ tl, News _ _ _ tl → News _ _ _ (tl ++ _)) [] News.nil) (fun _ h => nomatch h))
  all_goals rfl
set_option maxHeartbeats 0 in
theorem c_jdD (y m : Int) (ty tm : Tok) (td : Tok) (h0 : 2 ≤ m ∧ m ≤ 12) : Con 12 321 [.int y ty, .int m tm, .int 1 td] (PI (jdD y m)) := by
  unfold Con
  k_fill
  w_on
  intros; rename_i hret
  refine wpAny_call ?_
  k_dflt (refine' code_p ?k1 ?k2 ?k3 ?k4 ?k5 ?kA ?kF ?kK ?k6 ?k7 ?k8 ?k9 ?kB ?_ ?c2 ?c3 ?c4 ?c5; (case kA => exact rfl); (case kF => exact rfl); (case kK => assumption); (case k1 => k_asm); (case k2 => k_asm); (case k3 => k_asm); (case k4 => k_asm); (case k5 => k_asm); (case k6 => k_is); (case k7 => k_is); (case k8 => first | exact Nat.lt_of_le_of_lt (Nat.le_add_right _ _) (by assumption) | ktr_room); (case k9 => first | exact BindsTo.of_eq rfl | exact binds_K (by k_in) rfl (by k_is) rfl rfl rfl); (case c5 => decide); (case kB => exact locs rfl); (case c2 => exact rfl); (case c3 => exact rfl); (case c4 => exact rfl); k_whole; intro g' L' h' FG' F' N' B' X' T'; (try dsimp only); (try k_lift B'); (try k_fold))
  k_steps
  all_goals (refine hret _ [] _ _ ⟨rfl, _, congrArg (Value.int · _) ?_⟩ (by k_asm) ((by assumption : ∀ tl, News _ _ _ tl → News _ _ _ (tl ++ _)) [] News.nil) (fun _ h => nomatch h))
  all_goals (law_clear; first | (exfalso; omega) | (have q1 : leapG (y + 78) = true := (by assumption); have q2 : 8 ≤ m := (by assumption); exact jdD_a q1 q2) | (have q1 : leapG (y + 78) = true := (by assumption); have q2 : ¬ 8 ≤ m := (by assumption); exact jdD_b q1 q2) | (have q1 : leapG (y + 78) = false := (by assumption); have q2 : 8 ≤ m := (by assumption); exact jdD_c q1 q2) | (have q1 : leapG (y + 78) = false := (by assumption); have q2 : ¬ 8 ≤ m := (by assumption); exact jdD_d q1 q2))
-- part GE
def Scal (r : List Dat) : Prop := ∀ c ∈ r, c = Dat.none ∨ ∃ i, c = Dat.int i
theorem scal_reads {h h2 : Heap} : ∀ (r : List Dat) (vs : List Value) (as : List Addr), Scal r → ReadsAll h vs (kqdPs r) as → ReadsAll h2 vs (kqdPs r) as
  | [], vs, as, _, x => by rw [kqdPs] at x ⊢; cases x; exact .nil
  | c :: r, vs, as, hs, x => by
    rw [kqdPs] at x ⊢
    cases x with
    | cons hv hr =>
      refine .cons ?_ (scal_reads r _ _ (fun c hc => hs c (.tail _ hc)) hr)
      rcases hs c (.head _) with rfl | ⟨i, rfl⟩
      · rw [kqdP] at hv ⊢; cases hv; exact .none
      · rw [kqdP] at hv ⊢; cases hv; exact .int _ _
theorem freeze_rows {h : Heap} {α : Type} (f : α → List Dat) (hf : ∀ a, Scal (f a)) : ∀ (l : List α) (ys : List Value) (Ts : List Addr), ReadsAll h ys (l.map fun a => .list (kqdPs (f a))) Ts →
    ∃ tl : List (Addr × Obj), (∀ p ∈ tl, h.get? p.1 = some p.2 ∧ p.1 ∈ Ts ∧ ∃ vs n, p.2.data = Data.seq vs n) ∧ ∀ h2 : Heap, (∀ p ∈ tl, h2.get? p.1 = some p.2) → ReadsAll h2 ys (l.map fun a => .list (kqdPs (f a))) Ts
  | [], ys, Ts, x => by
    simp only [List.map_nil] at x ⊢
    cases x
    exact ⟨[], fun p hp => (nomatch hp), fun _ _ => .nil⟩
  | a :: l, ys, Ts, x => by
    simp only [List.map_cons] at x ⊢
    cases x with
    | cons hv hr =>
      obtain ⟨tl, h1, h2⟩ := freeze_rows f hf l _ _ hr
      cases hv with
      | list ho hc hd hi =>
        rename_i T o vs n as
        refine ⟨(T, o) :: tl, ?_, ?_⟩
        · intro p hp
          rcases List.mem_cons.mp hp with rfl | hp
          · exact ⟨ho, List.mem_append_left _ (.head _), _, _, hd⟩
          · exact ⟨(h1 p hp).1, List.mem_append_right _ (h1 p hp).2.1, (h1 p hp).2.2⟩
        · intro h3 hk
          exact .cons (.list (hk (T, o) (.head _)) hc hd (scal_reads _ _ _ (hf a) hi)) (h2 h3 fun p hp => hk p (.tail _ hp))
theorem daysD_scal {lp ml : Nat} : Scal (daysD lp ml) := by
  intro d hd
  unfold daysD at hd
  rcases List.mem_append.mp hd with h | h
  · rcases List.mem_append.mp h with h | h
    · exact .inl (List.mem_replicate.mp h).2
    · obtain ⟨i, _, rfl⟩ := List.mem_map.mp h; exact .inr ⟨_, rfl⟩
  · exact .inl (List.mem_replicate.mp h).2
theorem grid_rows (lp ml n : Nat) (hn : n = (lp + ml + 6) / 7) : (((rangeInts 0 7 n).filter fun _ => true).map fun a : Int => PyData.list (kqdPs (((daysD lp ml).drop a.toNat).take 7))) = kqdPs ((List.range ((lp + ml + 6) / 7)).map fun j => Dat.list (rowD lp ml j)) := by
  have e : ∀ l : List Nat, kqdPs (l.map fun j => Dat.list (rowD lp ml j)) = l.map fun j => PyData.list (kqdPs (rowD lp ml j)) := by
    intro l
    induction l with
    | nil => rw [List.map_nil, List.map_nil, kqdPs]
    | cons a l ih => rw [List.map_cons, List.map_cons, kqdPs, ih, kqdP]
  rw [e, filter_const_true, hn]
  unfold rangeInts
  rw [List.map_map]
  apply List.map_congr_left
  intro j _
  show PyData.list (kqdPs (((daysD lp ml).drop (0 + (j : Int) * 7).toNat).take 7)) = _
  rw [show (0 + (j : Int) * 7).toNat = 7 * j by omega]
  rfl
theorem end_grid {lp ml n : Nat} {g h₀ h' : Heap} {L L' D : Addr} {m m' : Str → Option Value} {news : List (Addr × Obj)} {s : Shared} {tk : Nat} {ys : List Value} {Ts : List Addr} {Q : Value → Shared → Prop}
    (hret : ∀ v tl h' tk', PG (gridD lp ml) tl v → Fr h₀ L h' m → News h₀ L h' (tl ++ news) → (∀ q ∈ tl, ∀ p ∈ news, p.1 ≠ q.1) → Q v { s with heap := h', toks := tk' })
    (FG : Fr h₀ L g m) (F' : Fr g L' h' m') (kF : Fr h₀ L h' m) (M : ∀ tl, News h₀ L h' tl → News h₀ L h' (tl ++ news)) (S : ∀ tl, News g L' h' tl → ∀ q ∈ tl, ∀ p ∈ news, p.1 ≠ q.1)
    (hl : h'.IsList D ys.toArray) (hra : ReadsAll h' ys (((rangeInts 0 7 n).filter fun _ => true).map fun a : Int => PyData.list (kqdPs (((daysD lp ml).drop a.toNat).take 7))) Ts)
    (hfr : ∀ T ∈ D :: Ts, g.get? T = none) (hn : n = (lp + ml + 6) / 7) : Q (.ref D) { s with heap := h', toks := tk } := by
  obtain ⟨o, ho, hc, k, hd⟩ := hl
  obtain ⟨tl, h1, h2⟩ := freeze_rows (fun a : Int => ((daysD lp ml).drop a.toNat).take 7) (fun a c hc => daysD_scal c (List.mem_of_mem_drop (List.mem_of_mem_take hc))) _ _ _ hra
  have all : ∀ p ∈ (D, o) :: tl, h'.get? p.1 = some p.2 ∧ g.get? p.1 = none ∧ ∃ vs n, p.2.data = Data.seq vs n := by
    intro p hp
    rcases List.mem_cons.mp hp with rfl | hp
    · exact ⟨ho, hfr D (.head _), _, _, hd⟩
    · exact ⟨(h1 p hp).1, hfr _ (.tail _ (h1 p hp).2.1), (h1 p hp).2.2⟩
  obtain ⟨oL, _, _, hL, _⟩ := FG.ns
  have n1 : News h₀ L h' ((D, o) :: tl) := fun p hp => ⟨(all p hp).1, (fun e => by have := (all p hp).2.1; rw [e, hL] at this; cases this), by
    cases q : h₀.get? p.1 with
    | none => rfl
    | some o' => have := (all p hp).2.1; rw [FG.keep _ _ q] at this; cases this⟩
  obtain ⟨oL', es', ep', hL', hLd', hLk', hLf'⟩ := F'.ns
  have n2 : News g L' h' ((D, o) :: tl) := fun p hp => ⟨(all p hp).1, (fun e => by
    obtain ⟨vs, q, hq⟩ := (all p hp).2.2
    have h3 := (all p hp).1
    rw [e, hL'] at h3
    have h4 : oL' = p.2 := Option.some.inj h3
    rw [← h4, hLd'] at hq
    cases hq), (all p hp).2.1⟩
  refine hret (.ref D) ((D, o) :: tl) h' tk ⟨⟨D, rfl⟩, fun h3 hk => ⟨D :: Ts, ?_⟩⟩ kF (M _ n1) (S _ n2)
  have r := h2 h3 fun p hp => hk p (.tail _ hp)
  rw [grid_rows lp ml n hn] at r
  unfold gridD
  rw [kqdP]
  exact reads_list_at (hk (D, o) (.head _)) hc hd (by simpa using r)
theorem kqdPs_map : ∀ l : List Dat, kqdPs l = l.map kqdP
  | [] => by rw [kqdPs, List.map_nil]
  | d :: l => by rw [kqdPs, List.map_cons, kqdPs_map l]
theorem carr_drop : ∀ (k : Nat) {vs : List Value} {ds : List PyData}, CarriedAll vs ds → CarriedAll (vs.drop k) (ds.drop k)
  | 0, _, _, h => h
  | _ + 1, _, _, .nil => .nil
  | k + 1, _, _, .cons _ r => carr_drop k r
theorem carr_take : ∀ (k : Nat) {vs : List Value} {ds : List PyData}, CarriedAll vs ds → CarriedAll (vs.take k) (ds.take k)
  | 0, _, _, _ => .nil
  | _ + 1, _, _, .nil => .nil
  | k + 1, _, _, .cons h r => .cons h (carr_take k r)
theorem carr_none : ∀ n : Nat, CarriedAll (List.replicate n Value.none) (List.replicate n PyData.none)
  | 0 => .nil
  | n + 1 => .cons .none (carr_none n)
theorem days_carried {lp ml : Nat} {vs : List Value} (hi : IntsAre vs (rangeKs 1 ml)) : CarriedAll (List.replicate lp Value.none ++ vs ++ List.replicate 7 Value.none) (kqdPs (daysD lp ml)) := by
  rw [kqdPs_map]
  unfold daysD
  rw [List.map_append, List.map_append, List.map_replicate, List.map_replicate, List.map_map]
  refine (CarriedAll.appendLM (CarriedAll.appendLM ?_ ?_) ?_)
  · rw [kqdP]; exact carr_none lp
  · have h := IntsAre.carried hi
    unfold rangeKs at h
    rw [List.map_map] at h
    have e : (List.range ml).map (PyData.int ∘ fun i : Nat => 1 + (i : Int)) = (List.range ml).map (kqdP ∘ fun i : Nat => Dat.int (1 + (i : Int))) := by
      apply List.map_congr_left; intro i _; show PyData.int _ = kqdP (Dat.int _); rw [kqdP]
    rw [← e]; exact h
  · rw [kqdP]; exact carr_none 7
theorem take7 {α : Type} (l : List α) (a : Nat) : (l.drop (min a l.length)).take (min (a + 7) l.length - min a l.length) = (l.drop a).take 7 := by
  rw [kmk_drop_min]
  by_cases h : a + 7 ≤ l.length
  · rw [Nat.min_eq_left h, Nat.min_eq_left (by omega)]; congr 1; omega
  · rw [Nat.min_eq_right (by omega : l.length ≤ a + 7)]
    rw [List.take_of_length_le (by rw [List.length_drop]; omega), List.take_of_length_le (by rw [List.length_drop]; omega)]
theorem slice7 {vs : List Value} {ds : List Dat} {x : Int} (hc : CarriedAll vs (kqdPs ds)) (h : 0 ≤ x) : CarriedAll (slicePick vs.toArray (some x) (some (x + 7)) none).toList (kqdPs ((ds.drop x.toNat).take 7)) := by
  obtain ⟨a, rfl⟩ := Int.eq_ofNat_of_zero_le h
  have h7 : (a : Int) + 7 = ((a + 7 : Nat) : Int) := rfl
  have e : sliceBounds (some (a : Int)) (some ((a : Int) + 7)) none vs.toArray.size = (((min a vs.toArray.size : Nat) : Int), ((min (a + 7) vs.toArray.size : Nat) : Int), 1) := by
    rw [h7]
    simp only [sliceBounds, Option.getD_none, show (1 : Int) > 0 by decide, if_true, if_neg (show ¬ ((a : Int) < 0) from Int.not_lt.mpr (Int.natCast_nonneg _)), if_neg (show ¬ (((a + 7 : Nat) : Int) < 0) from Int.not_lt.mpr (Int.natCast_nonneg _))]
    congr 1
    · omega
    · congr 1
      omega
  rw [kmk_pick_nat _ e, Int.toNat_natCast]
  show CarriedAll ((vs.drop (min a vs.toArray.size)).take (min (a + 7) vs.toArray.size - min a vs.toArray.size)) _
  rw [List.size_toArray, take7, kqdPs_map, List.map_take, List.map_drop, ← kqdPs_map]
  exact carr_take 7 (carr_drop _ hc)
theorem leaf_rows {s₂ : Shared} {tk : Nat} {t u : Tok} {vs : List Value} {ds : List Dat} {x : Int} (hc : CarriedAll vs (kqdPs ds)) (h : 0 ≤ x) :
    (∃ T its, Value.ref (s₂.heap.objs.size + 1) = Value.ref T ∧ s₂.heap.get? T = none ∧
      ((s₂.heap.push { cls := .type "slice", data := .fields #[.int x t, .int (x + 7) u, .none] }).push { cls := .type "list", data := .seq (slicePick vs.toArray (some x) (some (x + 7)) none) }).IsList T its ∧
      CarriedAll its.toList (kqdPs ((ds.drop x.toNat).take 7))) ∧
    Keeps s₂ { s₂ with heap := (s₂.heap.push { cls := .type "slice", data := .fields #[.int x t, .int (x + 7) u, .none] }).push { cls := .type "list", data := .seq (slicePick vs.toArray (some x) (some (x + 7)) none) }, toks := tk } :=
  ⟨⟨_, _, rfl, fresh_above _ 1, isList_pushed2 _ _ _, slice7 hc h⟩, _, _, rfl, fun _ _ e => Heap.get?_push_of_some _ (Heap.get?_push_of_some _ e)⟩
theorem mem_range7 {a : Int} {n : Nat} (h : a ∈ rangeInts 0 7 n) : 0 ≤ a := by
  obtain ⟨i, _, rfl⟩ := List.mem_map.mp h
  omega
theorem size7 {lp ml : Int} (h0 : 0 ≤ lp) (h1 : 0 ≤ ml) : (Builtin.Range.rangeSize 0 (lp + ml) 7).toNat = (lp.toNat + ml.toNat + 6) / 7 := by
  obtain ⟨a, rfl⟩ := Int.eq_ofNat_of_zero_le h0
  obtain ⟨b, rfl⟩ := Int.eq_ofNat_of_zero_le h1
  rw [Int.toNat_natCast, Int.toNat_natCast]
  unfold Builtin.Range.rangeSize
  split <;> split <;> omega
-- part CG
theorem con_grid {k f : Nat} {vs : List Value} {d : Dat} (C : Con k f vs (PG d)) {w : World} {mean : ExcName → Option Value} {mg mb : Str → Option Value} {dp un : Nat} {gd : Option (List Code)} {cn : Str} {cs : Scope} {a : Addr} {ccd : Value} {cl : List (Str × Addr)} {outer : List Env} {A₀ : Around} {base h₀ : Heap} {L : Addr} {m : Str → Option Value} {news : List (Addr × Obj)} {s : Shared} {Q E : Value → Shared → Prop}
    (B : Below A₀ base outer h₀) (F : Fr h₀ L s.heap m) (X : (KO w.params).In h₀) (N : News h₀ L s.heap news) (T : Top q0 Lo mean mg mb h₀) (hk : cs.kind = .function) (hd : dp + k < recursionLimit) (hu : un + 8 * k < cLine)
    (ret : ∀ D tl h' tk', (∀ h : Heap, (∀ p ∈ tl, h.get? p.1 = some p.2) → ∃ as, Reads h (.ref D) (kqdP d) as) → Fr h₀ L h' m → News h₀ L h' (tl ++ news) → (∀ q ∈ tl, ∀ p ∈ news, p.1 ≠ q.1) → Q (.ref D) { s with heap := h', toks := tk' }) :
    wpAny (model Challenge.rw_ja0024_01.row.prog w) (ktrTop dp un gd cn cs L a ccd cl outer) (PySem.call (.ref f) vs) Q E s := by
  refine C _ _ _ _ _ _ _ _ _ _ _ _ _ _ _ _ _ _ _ _ _ _ B F X N T hk hd hu ?_
  rintro v tl h' tk' ⟨⟨D, rfl⟩, hr⟩ F' N' S
  exact ret D tl h' tk' hr F' N' S
abbrev PL (ns : List Int) : List (Addr × Obj) → Value → Prop := fun tl v => ∃ D vs n, tl = [(D, listOf (List.toArray vs) n)] ∧ IntsAre vs ns ∧ v = .ref D
theorem con_list {k f : Nat} {vs : List Value} {ns : List Int} (C : Con k f vs (PL ns)) {w : World} {mean : ExcName → Option Value} {mg mb : Str → Option Value} {dp un : Nat} {gd : Option (List Code)} {cn : Str} {cs : Scope} {a : Addr} {ccd : Value} {cl : List (Str × Addr)} {outer : List Env} {A₀ : Around} {base h₀ : Heap} {L : Addr} {m : Str → Option Value} {news : List (Addr × Obj)} {s : Shared} {Q E : Value → Shared → Prop}
    (B : Below A₀ base outer h₀) (F : Fr h₀ L s.heap m) (X : (KO w.params).In h₀) (N : News h₀ L s.heap news) (T : Top q0 Lo mean mg mb h₀) (hk : cs.kind = .function) (hd : dp + k < recursionLimit) (hu : un + 8 * k < cLine)
    (ret : ∀ D us n h' tk', IntsAre us ns → Fr h₀ L h' m → News h₀ L h' ((D, listOf (List.toArray us) n) :: news) → (∀ p ∈ news, p.1 ≠ D) → Q (.ref D) { s with heap := h', toks := tk' }) :
    wpAny (model Challenge.rw_ja0024_01.row.prog w) (ktrTop dp un gd cn cs L a ccd cl outer) (PySem.call (.ref f) vs) Q E s := by
  refine C _ _ _ _ _ _ _ _ _ _ _ _ _ _ _ _ _ _ _ _ _ _ B F X N T hk hd hu ?_
  rintro v tl h' tk' ⟨D, us, n, rfl, hi, rfl⟩ F' N' S
  exact ret D us n h' tk' hi F' N' fun p hp => S _ (.head _) p hp
theorem end_list {ns : List Int} {us : List Value} {n : Nat} {g h₀ h' : Heap} {L L' D : Addr} {m : Str → Option Value} {news rest rest' : List (Addr × Obj)} {s : Shared} {tk : Nat} {Q : Value → Shared → Prop}
    (hret : ∀ v tl h' tk', PL ns tl v → Fr h₀ L h' m → News h₀ L h' (tl ++ news) → (∀ q ∈ tl, ∀ p ∈ news, p.1 ≠ q.1) → Q v { s with heap := h', toks := tk' })
    (kF : Fr h₀ L h' m) (M : ∀ tl, News h₀ L h' tl → News h₀ L h' (tl ++ news)) (S : ∀ tl, News g L' h' tl → ∀ q ∈ tl, ∀ p ∈ news, p.1 ≠ q.1)
    (kN : News h₀ L h' ((D, listOf (List.toArray us) n) :: rest)) (N' : News g L' h' ((D, listOf (List.toArray us) n) :: rest')) (hi : IntsAre us ns) : Q (.ref D) { s with heap := h', toks := tk } := by
  refine hret _ [(D, listOf (List.toArray us) n)] h' tk ⟨D, us, n, rfl, hi, rfl⟩ kF (M _ fun p hp => kN p ?_) (S _ fun p hp => N' p ?_)
  · rw [List.mem_singleton.mp hp]; exact .head _
  · rw [List.mem_singleton.mp hp]; exact .head _
theorem end_gridc {d : Dat} {g h₀ h' : Heap} {L L' D : Addr} {m : Str → Option Value} {news tl' rest rest' : List (Addr × Obj)} {s : Shared} {tk : Nat} {Q : Value → Shared → Prop}
    (hret : ∀ v tl h' tk', PG d tl v → Fr h₀ L h' m → News h₀ L h' (tl ++ news) → (∀ q ∈ tl, ∀ p ∈ news, p.1 ≠ q.1) → Q v { s with heap := h', toks := tk' })
    (hr : ∀ h : Heap, (∀ p ∈ tl', h.get? p.1 = some p.2) → ∃ as, Reads h (.ref D) (kqdP d) as) (kF : Fr h₀ L h' m) (M : ∀ tl, News h₀ L h' tl → News h₀ L h' (tl ++ news)) (S : ∀ tl, News g L' h' tl → ∀ q ∈ tl, ∀ p ∈ news, p.1 ≠ q.1)
    (kN : News h₀ L h' (tl' ++ rest)) (N' : News g L' h' (tl' ++ rest')) : Q (.ref D) { s with heap := h', toks := tk } :=
  hret (.ref D) tl' h' tk ⟨⟨D, rfl⟩, hr⟩ kF (M _ fun p hp => kN p (List.mem_append_left _ hp)) (S _ fun p hp => N' p (List.mem_append_left _ hp))
theorem fm7b (x : Int) : 0 ≤ Int.fmod x 7 ∧ Int.fmod x 7 ≤ 6 := by rw [Int.fmod_eq_emod_of_nonneg _ (by decide)]; omega
def szL (b : Bool) : List Int := [31, if b = true then 29 else 28, 31, 30, 31, 30, 31, 31, 30, 31, 30, 31]
theorem szL_t {vs : List Value} (h : IntsAre vs [31, 29, 31, 30, 31, 30, 31, 31, 30, 31, 30, 31]) : IntsAre vs (szL true) := h
theorem szL_f {vs : List Value} (h : IntsAre vs [31, 28, 31, 30, 31, 30, 31, 31, 30, 31, 30, 31]) : IntsAre vs (szL false) := h
-- part PA
theorem sizeG {y m : Int} (h : 1 ≤ m ∧ m ≤ 12) : mrL y m = (szL (leapG y)).getD (m - 1).toNat 0 := by
  unfold mrL szL
  cases leapG y <;> (rcases m12' h with rfl | rfl | rfl | rfl | rfl | rfl | rfl | rfl | rfl | rfl | rfl | rfl <;> decide)
theorem centG (y : Int) : 365 * (y - 1) + (y - 1).fdiv 4 + -((y - 1).fdiv 100) + (y - 1).fdiv 400 = 146097 * (y - 1).fdiv 400 + 365 * (y - 1).fmod 400 + ((y - 1).fmod 400).fdiv 4 - ((y - 1).fmod 400).fdiv 100 := by
  simp only [Int.fmod_eq_emod_of_nonneg _ (show (0 : Int) ≤ 400 by decide), Int.fdiv_eq_ediv_of_nonneg _ (show (0 : Int) ≤ 4 by decide), Int.fdiv_eq_ediv_of_nonneg _ (show (0 : Int) ≤ 100 by decide), Int.fdiv_eq_ediv_of_nonneg _ (show (0 : Int) ≤ 400 by decide)]
  omega
theorem monG {m : Int} (b : Bool) (h : 1 ≤ m ∧ m ≤ 12) : Int.fdiv (367 * m - 362) 12 + (if m ≤ 2 then 0 else if b = true then -1 else -2) = ((szL b).take (m - 1).toNat).sum := by
  unfold szL
  cases b <;> (rcases m12' h with rfl | rfl | rfl | rfl | rfl | rfl | rfl | rfl | rfl | rfl | rfl | rfl <;> decide)
theorem firstG {y m : Int} (h : 1 ≤ m ∧ m ≤ 12) : jdG y m 1 = jan y + ((szL (leapG y)).take (m - 1).toNat).sum := by
  have h1 := centG y
  have h2 := monG (leapG y) h
  unfold jdG jan adjG
  omega
theorem sizeJ {y m : Int} (h : 1 ≤ m ∧ m ≤ 12) : mlJ y m = (szL (Int.fmod y 4 == 0)).getD (m - 1).toNat 0 := by
  unfold mlJ szL
  by_cases h4 : Int.fmod y 4 = 0
  · have e : (Int.fmod y 4 == 0) = true := beq_iff_eq.mpr h4
    rw [e, if_pos h4]
    rcases m12' h with rfl | rfl | rfl | rfl | rfl | rfl | rfl | rfl | rfl | rfl | rfl | rfl <;> decide
  · have e : (Int.fmod y 4 == 0) = false := beq_eq_false_iff_ne.mpr h4
    rw [e, if_neg h4]
    rcases m12' h with rfl | rfl | rfl | rfl | rfl | rfl | rfl | rfl | rfl | rfl | rfl | rfl <;> decide
theorem getD_b {b : Bool} {i : Nat} (h : i < 12) : 28 ≤ (szL b).getD i 0 ∧ (szL b).getD i 0 ≤ 31 := by
  have : ∀ i : Fin 12, 28 ≤ (szL b).getD i.1 0 ∧ (szL b).getD i.1 0 ≤ 31 := by cases b <;> decide
  exact this ⟨i, h⟩
section
variable {prog : Program} {w : World} {A : Around} {E : Value → Shared → Prop} {s : Shared} {h₀ : Heap} {L : Addr} {m : Str → Option Value} {news : List (Addr × Obj)} {Q : Value → Shared → Prop}
theorem item_made {value slice : PySem.Expr} {D : Addr} {us : List Value} {ns : List Int} {n : Nat} {k : Int} {u : Tok}
    (N : News h₀ L s.heap news) (hm : (D, listOf us.toArray n) ∈ news) (hi : IntsAre us ns) (h0 : 0 ≤ k) (hb : k < (ns.length : Int)) (hl : ns.length ≤ 1000) (h : ∀ t, Q (.int (ns.getD k.toNat 0) t) s)
    (hs : subscripted slice false (.ref D) (.int k u) = operate [.ref D, .int k u] (getItem (.ref D) (.int k u))) :
    wpAny (model prog w) A (subscriptTail value slice (.ref D) (.int k u)) Q E s := by
  have hL := N.isList hm
  have hk : k.toNat < ns.length := by omega
  obtain ⟨t, hx⟩ := hi.get k.toNat ns[k.toNat] (by simp [hk])
  have e : ns.getD k.toNat 0 = ns[k.toNat] := by simp [hk]
  exact tail_any hL.typeIs slot_list_getitem.lookup (wpAny_getItem_list hL h0 (by omega) (by simpa using hx) (by rw [← e]; exact h t)) hs
theorem pick_upto_l {vs : List Value} {b : Nat} (hb : b ≤ vs.length) : (slicePick vs.toArray none (some (b : Int)) none).toList = vs.take b := by
  have e : sliceBounds none (some (b : Int)) none vs.toArray.size = (((0 : Nat) : Int), ((b : Nat) : Int), 1) := by
    simp only [sliceBounds, Option.getD_none, show (1 : Int) > 0 by decide, if_true, if_neg (show ¬ ((b : Int) < 0) by omega), List.size_toArray]
    congr 1
    congr 1
    omega
  rw [kmk_pick_nat _ e]
  show ((vs.drop 0).take (b - 0)) = _
  rw [List.drop_zero, Nat.sub_zero]
theorem slice_made_upto {value slice : PySem.Expr} {l : Addr} {us : List Value} {ns : List Int} {n : Nat} {b : Int} {u : Tok}
    (F : Fr h₀ L s.heap m) (N : News h₀ L s.heap news) (hm : (l, listOf us.toArray n) ∈ news) (hi : IntsAre us ns) (h1 : 0 ≤ b) (hb : b ≤ ns.length) (hl : ns.length ≤ 1000)
    (h : ∀ D ws h', Fr h₀ L h' m → News h₀ L h' ((D, listOf (List.toArray ws) 0) :: news) → (∀ p ∈ news, p.1 < D) → IntsAre ws (ns.take b.toNat) → Q (.ref D) { s with heap := h' })
    (hs : subscripted slice false (.ref l) (.ref s.heap.objs.size) = operate [.ref s.heap.objs.size, .ref l] (getItem (.ref l) (.ref s.heap.objs.size))) :
    wpAny (model prog w) A (subscriptTail value slice (.ref l) (.ref s.heap.objs.size)) Q E { s with heap := s.heap.push { cls := .type "slice", data := .fields #[.none, .int b u, .none] } } := by
  obtain ⟨k, rfl⟩ := Int.eq_ofNat_of_zero_le h1
  have hL : s.heap.IsList l us.toArray := N.isList hm
  have hlen : us.length = ns.length := hi.length
  have hL' : (s.heap.push { cls := .type "slice", data := .fields #[.none, .int (k : Int) u, .none] }).IsList l us.toArray := hL.push _
  refine tail_any (s := { s with heap := s.heap.push { cls := .type "slice", data := .fields #[.none, .int (k : Int) u, .none] } }) hL'.typeIs slot_list_getitem.lookup
    (wpAny_getItem_list_slice hL' (Heap.IsSliceOf.new ..) .none (.int _ _) .none (by simp) ?_ (by rw [List.size_toArray, sizeLine_eq]; omega)) hs
  have N1 := News.push (F.push { cls := .type "slice", data := .fields #[.none, .int (k : Int) u, .none] }) (N.grown fun _ _ e => Heap.get?_push_of_some _ e) { cls := .type "list", data := .seq (slicePick us.toArray none (some (k : Int)) none) }
  rw [Heap.size_push] at N1
  show Q (.ref (s.heap.push _).objs.size) _
  rw [Heap.size_push]
  have e : slicePick us.toArray none (some (k : Int)) none = (us.take k).toArray := by
    rw [← pick_upto_l (by omega : k ≤ us.length)]
  rw [e] at N1 ⊢
  exact h _ (us.take k) _ ((F.push _).push _) N1 (fun p hp => Nat.lt_succ_of_lt (Heap.lt_size (N p hp).1)) (by simpa using hi.take k)
end
-- part PB
theorem grid_congr {a b c d : Int} (h1 : a = b) (h2 : c = d) : gridD (Int.fmod (Int.fmod a 7 + 1) 7).toNat c.toNat = gridD (Int.fmod (Int.fmod b 7 + 1) 7).toNat d.toNat := by subst h1; subst h2; rfl
section
variable {prog : Program} {w : World} {A : Around} {E : Value → Shared → Prop} {s : Shared} {h₀ : Heap} {L : Addr} {m : Str → Option Value} {news : List (Addr × Obj)} {Q : Value → Shared → Prop}
theorem grid_eq2 {d d' : Dat} {a b : Addr} {t₁ t₂ : List (Addr × Obj)} (N : News h₀ L s.heap news) (ra : ∀ h : Heap, (∀ p ∈ t₁, h.get? p.1 = some p.2) → ∃ as, Reads h (.ref a) (kqdP d) as) (ha : ∀ p ∈ t₁, p ∈ news)
    (rb : ∀ h : Heap, (∀ p ∈ t₂, h.get? p.1 = some p.2) → ∃ as, Reads h (.ref b) (kqdP d') as) (hb : ∀ p ∈ t₂, p ∈ news) (hd : d = d') (hok : kqdOk 9 d = true) (hu : A.units + 64 < cLine) (h : Q (.bool true) s) :
    wpAny (model prog w) A (compareOp .Eq (.ref a) (.ref b)) Q E s := by
  subst hd
  exact grid_eq hok N ra ha rb hb hu h
theorem slice_made_upto2 {h1 : Heap} {ge : Array GenState} {dr : Drawn} {tk : Nat} {os : OsState} {value slice : PySem.Expr} {l : Addr} {us : List Value} {ns : List Int} {n : Nat} {b : Int} {u : Tok}
    (F : Fr h₀ L h1 m) (N : News h₀ L h1 news) (hm : (l, listOf us.toArray n) ∈ news) (hi : IntsAre us ns) (h0 : 0 ≤ b) (hb : b ≤ ns.length) (hl : ns.length ≤ 1000)
    (h : ∀ D ws h', Fr h₀ L h' m → News h₀ L h' ((D, listOf (List.toArray ws) 0) :: news) → (∀ p ∈ news, p.1 < D) → IntsAre ws (ns.take b.toNat) → Q (.ref D) { heap := h', gens := ge, drawn := dr, toks := tk, os := os })
    (hs : subscripted slice false (.ref l) (.ref h1.objs.size) = operate [.ref h1.objs.size, .ref l] (getItem (.ref l) (.ref h1.objs.size))) :
    wpAny (model prog w) A (subscriptTail value slice (.ref l) (.ref h1.objs.size)) Q E { heap := h1.push { cls := .type "slice", data := .fields #[.none, .int b u, .none] }, gens := ge, drawn := dr, toks := tk, os := os } :=
  slice_made_upto (s := { heap := h1, gens := ge, drawn := dr, toks := tk, os := os }) F N hm hi h0 hb hl h hs
end
-- part CX
section
variable {prog : Program} {w : World} {A : Around} {E : Value → Shared → Prop} {s : Shared} {h₀ : Heap} {L : Addr} {m : Str → Option Value} {env : Env}
theorem ctest_range {ct elt : Expr} {x : Str} {scope : Scope} {cl : List (Str × Addr)} {S : List (Addr × Obj) → Prop} {Fin : List Value → List (Addr × Obj) → Prop} {news : List (Addr × Obj)} {a : Int} (p : Int → Bool) (g : Int → Int) (hS : S news)
    (test : ∀ k t I oI C oC D m₂ ys h tk (Q' : Bool → Shared → Prop) (E' : Value → Shared → Prop), LCg.NsObj oC m₂ → m₂ x = some (.int k t) → Fr h₀ L h m → News h₀ L h ((I, oI) :: (C, oC) :: (D, LCg.lst ys) :: news) → LCg.Off3 I C D news → ((@Ne Nat I C) ∧ (@Ne Nat I D) ∧ (@Ne Nat C D)) →
      (∀ tk', Q' (p k) { s with heap := h, toks := tk' }) → wpAny (model prog w) A (isTrue ct (compEnvC scope cl C env) (eval ct (compEnvC scope cl C env))) Q' E' { s with heap := h, toks := tk })
    (elem : ∀ k t I oI C oC D m₂ ys h tk (Q' : Value → Shared → Prop) (E' : Value → Shared → Prop), LCg.NsObj oC m₂ → m₂ x = some (.int k t) → Fr h₀ L h m → News h₀ L h ((I, oI) :: (C, oC) :: (D, LCg.lst ys) :: news) → LCg.Off3 I C D news → ((@Ne Nat I C) ∧ (@Ne Nat I D) ∧ (@Ne Nat C D)) →
      (∀ t' tk', Q' (.int (g k) t') { s with heap := h, toks := tk' }) → wpAny (model prog w) A (eval elt (compEnvC scope cl C env)) Q' E' { s with heap := h, toks := tk }) :
    ∀ (n i : Nat) (zs : List Value) (ks : List Int), IntsAre zs ks → (∀ us, IntsAre us (ks ++ (((rangeKs (a + (i : Int)) n).filter p).map g)) → Fin us news) →
      LCt.CompRestT prog w A h₀ L m env ct elt x scope cl s S (fun i v => ∃ t, v = .int (a + (i : Int)) t) Fin n i zs news
  | 0, i, zs, ks, hi, fin => LCt.CompRestT.zero (fin zs (by simpa [rangeKs] using hi))
  | n + 1, i, zs, ks, hi, fin => by
    have e : rangeKs (a + (i : Int)) (n + 1) = (a + (i : Int)) :: rangeKs (a + ((i + 1 : Nat) : Int)) n := by
      unfold rangeKs
      rw [List.range_succ_eq_map, List.map_cons, List.map_map]
      congr 1
      · simp
      · apply List.map_congr_left
        intro j _
        show a + (i : Int) + ((j + 1 : Nat) : Int) = a + ((i + 1 : Nat) : Int) + (j : Int)
        omega
    refine LCt.CompRestT.succ ?_
    rintro v I oI C oC D m₂ h tk E' ⟨t, rfl⟩ hC hx F N off ne
    refine test _ t I oI C oC D m₂ zs h tk _ E' hC hx F N off ne fun tk' => ?_
    cases hp : p (a + (i : Int)) with
    | true =>
      rw [if_pos rfl]
      refine elem _ t I oI C oC D m₂ zs h tk' _ E' hC hx F N off ne fun t' tk'' => ?_
      refine ⟨h, tk'', news, rfl, F, N, off, hS, ?_⟩
      refine ctest_range p g hS test elem n (i + 1) _ (ks ++ [g (a + (i : Int))]) (IntsAre.append hi (.cons _ t' .nil)) fun us hu => fin us ?_
      rw [e, List.filter_cons_of_pos hp, List.map_cons]
      simpa using hu
    | false =>
      rw [if_neg Bool.false_ne_true]
      refine ⟨h, tk', news, rfl, F, N, off, hS, ?_⟩
      refine ctest_range p g hS test elem n (i + 1) zs ks hi fun us hu => fin us ?_
      rw [e, List.filter_cons_of_neg (by rw [hp]; exact Bool.false_ne_true)]
      exact hu
end
-- part ND
def dN (f : Int) (c : Nat) : List Int := (List.range c).map fun i : Nat => f + 7 * (i : Int)
def cntN (y m w : Int) : Nat := if fkN y m w + 28 ≤ mrL y m then 5 else 4
theorem cntN_v (y m w : Int) : ((cntN y m w : Int) = 5 ∧ fkN y m w + 28 ≤ mrL y m) ∨ ((cntN y m w : Int) = 4 ∧ mrL y m < fkN y m w + 28) := by
  unfold cntN
  split <;> omega
theorem dN_len (f : Int) (c : Nat) : (dN f c).length = c := by unfold dN; rw [List.length_map, List.length_range]
theorem cnt_small (y m w : Int) : ((cntN y m w : Nat) : Int) < 2 ^ 63 := by have := cntN_v y m w; omega
theorem dN_get {f : Int} {c i : Nat} (h : i < c) : (dN f c)[i]? = some (f + 7 * (i : Int)) := by
  unfold dN
  rw [List.getElem?_map, List.getElem?_range h]
  rfl
theorem nr_end {a b c d : Int} (h1 : b = a) (h2 : c = d) : (a == b && c == d) = true := by subst h1; subst h2; rw [beq_self_eq_true, beq_self_eq_true]; rfl
theorem sel28 : ∀ (L : Fin 4) (f : Fin 7), ((List.range (28 + L.1)).filter fun i : Nat => ((1 + (i : Int)) - (1 + (f.1 : Int))) % 7 == 0).map (fun i : Nat => (1 + (i : Int))) = dN (1 + (f.1 : Int)) (if (1 + (f.1 : Int)) + 28 ≤ 28 + (L.1 : Int) then 5 else 4) := by decide +kernel
theorem mrF_first {y m : Int} (h : 1 ≤ m ∧ m ≤ 12) : Int.fmod (jan y + ((szL (leapG y)).take (m - 1).toNat).sum) 7 = mrF y m := by
  have h1 := centG y
  have h2 : ((szL (leapG y)).take (m - 1).toNat).sum = (md.take m.toNat).sum + (if 2 < m ∧ leapG y = true then 1 else 0) := by
    unfold szL
    cases leapG y <;> (rcases m12' h with rfl | rfl | rfl | rfl | rfl | rfl | rfl | rfl | rfl | rfl | rfl | rfl <;> decide)
  unfold mrF jan
  rw [h2]
  generalize (if 2 < m ∧ leapG y = true then (1 : Int) else 0) = a at *
  generalize (md.take m.toNat).sum = b at *
  have e : 1721426 + 146097 * (y - 1).fdiv 400 + 365 * (y - 1).fmod 400 + ((y - 1).fmod 400).fdiv 4 - ((y - 1).fmod 400).fdiv 100 + (b + a) = (365 * (y - 1) + (y - 1).fdiv 4 - (y - 1).fdiv 100 + (y - 1).fdiv 400 + b + a) + 1721426 := by omega
  rw [e]
  generalize 365 * (y - 1) + (y - 1).fdiv 4 - (y - 1).fdiv 100 + (y - 1).fdiv 400 + b + a = x
  rw [Int.fmod_eq_emod_of_nonneg _ (by decide), Int.fmod_eq_emod_of_nonneg _ (by decide)]
  omega
theorem days_ok {y m w F : Int} {N : Nat} {us : List Value} (h : 1 ≤ m ∧ m ≤ 12) (hw : 0 ≤ w ∧ w ≤ 6) (hF : Int.fmod F 7 = mrF y m) (hN : (N : Int) = mrL y m)
    (hi : IntsAre us ([] ++ ((rangeKs (1 + ((0 : Nat) : Int)) N).filter fun k => Int.fmod (F + k - 1) 7 == w).map (fun k => k))) : IntsAre us (dN (fkN y m w) (cntN y m w)) := by
  have hb := mrL_bN y h
  have hf := fkN_b y m w
  have e := sel28 ⟨N - 28, by omega⟩ ⟨(fkN y m w - 1).toNat, by omega⟩
  have e1 : 1 + (((fkN y m w - 1).toNat : Nat) : Int) = fkN y m w := by omega
  have e2 : 28 + (N - 28) = N := by omega
  simp only [e1, e2] at e
  have e3 : (if fkN y m w + 28 ≤ 28 + ((N - 28 : Nat) : Int) then 5 else 4) = cntN y m w := by
    unfold cntN
    rw [show 28 + ((N - 28 : Nat) : Int) = mrL y m by omega]
  rw [e3] at e
  rw [List.nil_append, List.map_id'] at hi
  unfold rangeKs at hi
  rw [List.filter_map] at hi
  rw [← e]
  have e4 : (List.range N).filter ((fun k => Int.fmod (F + k - 1) 7 == w) ∘ fun i : Nat => 1 + ((0 : Nat) : Int) + (i : Int)) = (List.range N).filter fun i : Nat => ((1 + (i : Int)) - fkN y m w) % 7 == 0 := by
    apply List.filter_congr
    intro i _
    show (Int.fmod (F + (1 + ((0 : Nat) : Int) + (i : Int)) - 1) 7 == w) = _
    unfold fkN
    rw [← hF, Bool.eq_iff_iff]
    simp only [beq_iff_eq, Int.fmod_eq_emod_of_nonneg _ (show (0 : Int) ≤ 7 by decide)]
    omega
  rw [e4] at hi
  have e5 : (fun i : Nat => 1 + ((0 : Nat) : Int) + (i : Int)) = fun i : Nat => (1 + (i : Int)) := by funext i; omega
  rw [e5] at hi
  exact hi
section
variable {prog : Program} {w : World} {A : Around} {E : Value → Shared → Prop} {s : Shared} {h₀ : Heap} {L : Addr} {m : Str → Option Value} {news : List (Addr × Obj)} {Q : Value → Shared → Prop}
theorem item_dn {value slice : PySem.Expr} {D : Addr} {us : List Value} {f : Int} {c n : Nat} {k : Int} {u : Tok}
    (N : News h₀ L s.heap news) (hm : (D, listOf us.toArray n) ∈ news) (hi : IntsAre us (dN f c)) (h0 : 0 ≤ k) (hb : k < (c : Int)) (hc : (c : Int) < 2 ^ 63) (h : ∀ t, Q (.int (f + 7 * k) t) s)
    (hs : subscripted slice false (.ref D) (.int k u) = operate [.ref D, .int k u] (getItem (.ref D) (.int k u))) :
    wpAny (model prog w) A (subscriptTail value slice (.ref D) (.int k u)) Q E s := by
  have hL := N.isList hm
  obtain ⟨t, hx⟩ := hi.get k.toNat (f + 7 * (k.toNat : Int)) (dN_get (by omega))
  rw [show f + 7 * (k.toNat : Int) = f + 7 * k by omega] at hx
  exact tail_any hL.typeIs slot_list_getitem.lookup (wpAny_getItem_list hL h0 (by omega) (by simpa using hx) (h t)) hs
theorem item_last {value slice : PySem.Expr} {D : Addr} {us : List Value} {f : Int} {c n : Nat} {u : Tok}
    (N : News h₀ L s.heap news) (hm : (D, listOf us.toArray n) ∈ news) (hi : IntsAre us (dN f c)) (h0 : 1 ≤ c) (h : ∀ t, Q (.int (f + 7 * ((c : Int) - 1)) t) s)
    (hs : subscripted slice false (.ref D) (.int (-1) u) = operate [.ref D, .int (-1) u] (getItem (.ref D) (.int (-1) u))) :
    wpAny (model prog w) A (subscriptTail value slice (.ref D) (.int (-1) u)) Q E s := by
  have hL := N.isList hm
  have hlen : us.length = c := hi.length.trans (dN_len f c)
  obtain ⟨t, hx⟩ := hi.get (c - 1) (f + 7 * ((c - 1 : Nat) : Int)) (dN_get (by omega))
  rw [show f + 7 * ((c - 1 : Nat) : Int) = f + 7 * ((c : Int) - 1) by omega] at hx
  refine tail_any hL.typeIs slot_list_getitem.lookup (wpAny_getItem_list_neg hL (by decide) (by rw [List.size_toArray, hlen]; omega) (by decide) ?_ (h t)) hs
  rw [List.size_toArray, hlen, show ((-1 : Int) + (c : Int)).toNat = c - 1 by omega]
  simpa using hx
end
-- part CT
theorem ln_CT_1 : True := by
  k_with_none
  (k_with "execs cons" => (k_here; (try dsimp only); k_gentoks))
  (k_with "execs nil" => (k_here; (try dsimp only); k_gentoks))
  trivial
section
variable {prog : Program} {w : World} {A : Around} {s : Shared} {h₀ : Heap} {L : Addr} {m : Str → Option Value} {env : Env} {news : List (Addr × Obj)}
set_option maxHeartbeats 0 in
theorem t_sub {cjd : Addr} {ojd : Obj} {xjd : Int} {tjd : Tok} {cwd : Addr} {owd : Obj} {xwd : Int} {twd : Tok} {cl : List (Str × Addr)} {p1 p2 p3 p4 p5 p6 p7 : Pos} {k : Int} {t : Tok} {C I D : Addr} {oC oI oD : Obj} {m₂ : Str → Option Value} {h : Heap} {tk : Nat} {Q' : Bool → Shared → Prop} {E' : Value → Shared → Prop} (ljd : cl.lookup (Str.ofString "jd") = some cjd) (lwd : cl.lookup (Str.ofString "wd") = some cwd) (mjd : (cjd, ojd) ∈ news) (djd : ojd.data = .cell (some (.int xjd tjd))) (mwd : (cwd, owd) ∈ news) (dwd : owd.data = .cell (some (.int xwd twd))) (kf : (compEnvC { kind := ScopeKind.function, names := [(Str.ofString ".0", NameKind.local), (Str.ofString "k", NameKind.local), (Str.ofString "jd", NameKind.free), (Str.ofString "wd", NameKind.free)], isGenerator := false, isCoroutine := false } cl C env).scope.kind = .function) (kk : (compEnvC { kind := ScopeKind.function, names := [(Str.ofString ".0", NameKind.local), (Str.ofString "k", NameKind.local), (Str.ofString "jd", NameKind.free), (Str.ofString "wd", NameKind.free)], isGenerator := false, isCoroutine := false } cl C env).kindOf (Str.ofString "k") = some .local) (kjd : (compEnvC { kind := ScopeKind.function, names := [(Str.ofString ".0", NameKind.local), (Str.ofString "k", NameKind.local), (Str.ofString "jd", NameKind.free), (Str.ofString "wd", NameKind.free)], isGenerator := false, isCoroutine := false } cl C env).kindOf (Str.ofString "jd") = some .cell) (kwd : (compEnvC { kind := ScopeKind.function, names := [(Str.ofString ".0", NameKind.local), (Str.ofString "k", NameKind.local), (Str.ofString "jd", NameKind.free), (Str.ofString "wd", NameKind.free)], isGenerator := false, isCoroutine := false } cl C env).kindOf (Str.ofString "wd") = some .cell)
    (hC : LCg.NsObj oC m₂) (hx : m₂ (Str.ofString "k") = some (.int k t)) (F : Fr h₀ L h m) (N : News h₀ L h ((I, oI) :: (C, oC) :: (D, oD) :: news)) (K : ∀ tk', Q' (Int.fmod (xjd - k) 7 == xwd) { s with heap := h, toks := tk' }) :
    wpAny (model prog w) A (isTrue (Expr.Compare (Expr.BinOp (Expr.BinOp (Expr.Name (Str.ofString "jd") p1) Operator.Sub (Expr.Name (Str.ofString "k") p2) p3) Operator.Mod (Expr.Constant (Const.int 7) 0 p4) p5) [CmpOp.Eq] [(Expr.Name (Str.ofString "wd") p6)] p7) (compEnvC { kind := ScopeKind.function, names := [(Str.ofString ".0", NameKind.local), (Str.ofString "k", NameKind.local), (Str.ofString "jd", NameKind.free), (Str.ofString "wd", NameKind.free)], isGenerator := false, isCoroutine := false } cl C env) (eval (Expr.Compare (Expr.BinOp (Expr.BinOp (Expr.Name (Str.ofString "jd") p1) Operator.Sub (Expr.Name (Str.ofString "k") p2) p3) Operator.Mod (Expr.Constant (Const.int 7) 0 p4) p5) [CmpOp.Eq] [(Expr.Name (Str.ofString "wd") p6)] p7) (compEnvC { kind := ScopeKind.function, names := [(Str.ofString ".0", NameKind.local), (Str.ofString "k", NameKind.local), (Str.ofString "jd", NameKind.free), (Str.ofString "wd", NameKind.free)], isGenerator := false, isCoroutine := false } cl C env))) Q' E' { s with heap := h, toks := tk } := by
  refine wpAny_isTrue_Compare1 ?_
  refine wpAny_BinOp ?_
  refine wpAny_BinOp ?_
  refine kcf_cell N ljd (.tail _ (.tail _ (.tail _ mjd))) djd ?_ kf kjd
  try dsimp only
  refine LCgL.ld_own N (.tail _ (.head _)) hC hx ?_ kf kk
  try dsimp only
  refine sub_int ?_
  try dsimp only
  refine wpAny_Constant_int ?_
  try dsimp only
  refine mod_int' (by decide) ?_
  try dsimp only
  refine kcf_cell N lwd (.tail _ (.tail _ (.tail _ mwd))) dwd ?_ kf kwd
  try dsimp only
  refine eq_int ?_
  try dsimp only
  refine wpAny_truthy_bool ?_
  exact K _
set_option maxHeartbeats 0 in
theorem e_sub {cjd : Addr} {ojd : Obj} {xjd : Int} {tjd : Tok} {cl : List (Str × Addr)} {p1 p2 p3 : Pos} {k : Int} {t : Tok} {C I D : Addr} {oC oI oD : Obj} {m₂ : Str → Option Value} {h : Heap} {tk : Nat} {Q' : Value → Shared → Prop} {E' : Value → Shared → Prop} (ljd : cl.lookup (Str.ofString "jd") = some cjd) (mjd : (cjd, ojd) ∈ news) (djd : ojd.data = .cell (some (.int xjd tjd))) (kf : (compEnvC { kind := ScopeKind.function, names := [(Str.ofString ".0", NameKind.local), (Str.ofString "k", NameKind.local), (Str.ofString "jd", NameKind.free), (Str.ofString "wd", NameKind.free)], isGenerator := false, isCoroutine := false } cl C env).scope.kind = .function) (kk : (compEnvC { kind := ScopeKind.function, names := [(Str.ofString ".0", NameKind.local), (Str.ofString "k", NameKind.local), (Str.ofString "jd", NameKind.free), (Str.ofString "wd", NameKind.free)], isGenerator := false, isCoroutine := false } cl C env).kindOf (Str.ofString "k") = some .local) (kjd : (compEnvC { kind := ScopeKind.function, names := [(Str.ofString ".0", NameKind.local), (Str.ofString "k", NameKind.local), (Str.ofString "jd", NameKind.free), (Str.ofString "wd", NameKind.free)], isGenerator := false, isCoroutine := false } cl C env).kindOf (Str.ofString "jd") = some .cell)
    (hC : LCg.NsObj oC m₂) (hx : m₂ (Str.ofString "k") = some (.int k t)) (F : Fr h₀ L h m) (N : News h₀ L h ((I, oI) :: (C, oC) :: (D, oD) :: news)) (K : ∀ t' tk', Q' (.int (xjd - k) t') { s with heap := h, toks := tk' }) :
    wpAny (model prog w) A (eval (Expr.BinOp (Expr.Name (Str.ofString "jd") p1) Operator.Sub (Expr.Name (Str.ofString "k") p2) p3) (compEnvC { kind := ScopeKind.function, names := [(Str.ofString ".0", NameKind.local), (Str.ofString "k", NameKind.local), (Str.ofString "jd", NameKind.free), (Str.ofString "wd", NameKind.free)], isGenerator := false, isCoroutine := false } cl C env)) Q' E' { s with heap := h, toks := tk } := by
  refine wpAny_BinOp ?_
  refine kcf_cell N ljd (.tail _ (.tail _ (.tail _ mjd))) djd ?_ kf kjd
  try dsimp only
  refine LCgL.ld_own N (.tail _ (.head _)) hC hx ?_ kf kk
  try dsimp only
  refine sub_int ?_
  try dsimp only
  exact K _ _
set_option maxHeartbeats 0 in
theorem t_add {cjd : Addr} {ojd : Obj} {xjd : Int} {tjd : Tok} {cwd : Addr} {owd : Obj} {xwd : Int} {twd : Tok} {cl : List (Str × Addr)} {p1 p2 p3 p4 p5 p6 p7 : Pos} {k : Int} {t : Tok} {C I D : Addr} {oC oI oD : Obj} {m₂ : Str → Option Value} {h : Heap} {tk : Nat} {Q' : Bool → Shared → Prop} {E' : Value → Shared → Prop} (ljd : cl.lookup (Str.ofString "jd") = some cjd) (lwd : cl.lookup (Str.ofString "wd") = some cwd) (mjd : (cjd, ojd) ∈ news) (djd : ojd.data = .cell (some (.int xjd tjd))) (mwd : (cwd, owd) ∈ news) (dwd : owd.data = .cell (some (.int xwd twd))) (kf : (compEnvC { kind := ScopeKind.function, names := [(Str.ofString ".0", NameKind.local), (Str.ofString "k", NameKind.local), (Str.ofString "jd", NameKind.free), (Str.ofString "wd", NameKind.free)], isGenerator := false, isCoroutine := false } cl C env).scope.kind = .function) (kk : (compEnvC { kind := ScopeKind.function, names := [(Str.ofString ".0", NameKind.local), (Str.ofString "k", NameKind.local), (Str.ofString "jd", NameKind.free), (Str.ofString "wd", NameKind.free)], isGenerator := false, isCoroutine := false } cl C env).kindOf (Str.ofString "k") = some .local) (kjd : (compEnvC { kind := ScopeKind.function, names := [(Str.ofString ".0", NameKind.local), (Str.ofString "k", NameKind.local), (Str.ofString "jd", NameKind.free), (Str.ofString "wd", NameKind.free)], isGenerator := false, isCoroutine := false } cl C env).kindOf (Str.ofString "jd") = some .cell) (kwd : (compEnvC { kind := ScopeKind.function, names := [(Str.ofString ".0", NameKind.local), (Str.ofString "k", NameKind.local), (Str.ofString "jd", NameKind.free), (Str.ofString "wd", NameKind.free)], isGenerator := false, isCoroutine := false } cl C env).kindOf (Str.ofString "wd") = some .cell)
    (hC : LCg.NsObj oC m₂) (hx : m₂ (Str.ofString "k") = some (.int k t)) (F : Fr h₀ L h m) (N : News h₀ L h ((I, oI) :: (C, oC) :: (D, oD) :: news)) (K : ∀ tk', Q' (Int.fmod (xjd + k) 7 == xwd) { s with heap := h, toks := tk' }) :
    wpAny (model prog w) A (isTrue (Expr.Compare (Expr.BinOp (Expr.BinOp (Expr.Name (Str.ofString "jd") p1) Operator.Add (Expr.Name (Str.ofString "k") p2) p3) Operator.Mod (Expr.Constant (Const.int 7) 0 p4) p5) [CmpOp.Eq] [(Expr.Name (Str.ofString "wd") p6)] p7) (compEnvC { kind := ScopeKind.function, names := [(Str.ofString ".0", NameKind.local), (Str.ofString "k", NameKind.local), (Str.ofString "jd", NameKind.free), (Str.ofString "wd", NameKind.free)], isGenerator := false, isCoroutine := false } cl C env) (eval (Expr.Compare (Expr.BinOp (Expr.BinOp (Expr.Name (Str.ofString "jd") p1) Operator.Add (Expr.Name (Str.ofString "k") p2) p3) Operator.Mod (Expr.Constant (Const.int 7) 0 p4) p5) [CmpOp.Eq] [(Expr.Name (Str.ofString "wd") p6)] p7) (compEnvC { kind := ScopeKind.function, names := [(Str.ofString ".0", NameKind.local), (Str.ofString "k", NameKind.local), (Str.ofString "jd", NameKind.free), (Str.ofString "wd", NameKind.free)], isGenerator := false, isCoroutine := false } cl C env))) Q' E' { s with heap := h, toks := tk } := by
  refine wpAny_isTrue_Compare1 ?_
  refine wpAny_BinOp ?_
  refine wpAny_BinOp ?_
  refine kcf_cell N ljd (.tail _ (.tail _ (.tail _ mjd))) djd ?_ kf kjd
  try dsimp only
  refine LCgL.ld_own N (.tail _ (.head _)) hC hx ?_ kf kk
  try dsimp only
  refine add_int ?_
  try dsimp only
  refine wpAny_Constant_int ?_
  try dsimp only
  refine mod_int' (by decide) ?_
  try dsimp only
  refine kcf_cell N lwd (.tail _ (.tail _ (.tail _ mwd))) dwd ?_ kf kwd
  try dsimp only
  refine eq_int ?_
  try dsimp only
  refine wpAny_truthy_bool ?_
  exact K _
set_option maxHeartbeats 0 in
theorem e_add {cjd : Addr} {ojd : Obj} {xjd : Int} {tjd : Tok} {cl : List (Str × Addr)} {p1 p2 p3 : Pos} {k : Int} {t : Tok} {C I D : Addr} {oC oI oD : Obj} {m₂ : Str → Option Value} {h : Heap} {tk : Nat} {Q' : Value → Shared → Prop} {E' : Value → Shared → Prop} (ljd : cl.lookup (Str.ofString "jd") = some cjd) (mjd : (cjd, ojd) ∈ news) (djd : ojd.data = .cell (some (.int xjd tjd))) (kf : (compEnvC { kind := ScopeKind.function, names := [(Str.ofString ".0", NameKind.local), (Str.ofString "k", NameKind.local), (Str.ofString "jd", NameKind.free), (Str.ofString "wd", NameKind.free)], isGenerator := false, isCoroutine := false } cl C env).scope.kind = .function) (kk : (compEnvC { kind := ScopeKind.function, names := [(Str.ofString ".0", NameKind.local), (Str.ofString "k", NameKind.local), (Str.ofString "jd", NameKind.free), (Str.ofString "wd", NameKind.free)], isGenerator := false, isCoroutine := false } cl C env).kindOf (Str.ofString "k") = some .local) (kjd : (compEnvC { kind := ScopeKind.function, names := [(Str.ofString ".0", NameKind.local), (Str.ofString "k", NameKind.local), (Str.ofString "jd", NameKind.free), (Str.ofString "wd", NameKind.free)], isGenerator := false, isCoroutine := false } cl C env).kindOf (Str.ofString "jd") = some .cell)
    (hC : LCg.NsObj oC m₂) (hx : m₂ (Str.ofString "k") = some (.int k t)) (F : Fr h₀ L h m) (N : News h₀ L h ((I, oI) :: (C, oC) :: (D, oD) :: news)) (K : ∀ t' tk', Q' (.int (xjd + k) t') { s with heap := h, toks := tk' }) :
    wpAny (model prog w) A (eval (Expr.BinOp (Expr.Name (Str.ofString "jd") p1) Operator.Add (Expr.Name (Str.ofString "k") p2) p3) (compEnvC { kind := ScopeKind.function, names := [(Str.ofString ".0", NameKind.local), (Str.ofString "k", NameKind.local), (Str.ofString "jd", NameKind.free), (Str.ofString "wd", NameKind.free)], isGenerator := false, isCoroutine := false } cl C env)) Q' E' { s with heap := h, toks := tk } := by
  refine wpAny_BinOp ?_
  refine kcf_cell N ljd (.tail _ (.tail _ (.tail _ mjd))) djd ?_ kf kjd
  try dsimp only
  refine LCgL.ld_own N (.tail _ (.head _)) hC hx ?_ kf kk
  try dsimp only
  refine add_int ?_
  try dsimp only
  exact K _ _
set_option maxHeartbeats 0 in
theorem t_nth {cfirst : Addr} {ofirst : Obj} {xfirst : Int} {tfirst : Tok} {cwd : Addr} {owd : Obj} {xwd : Int} {twd : Tok} {cl : List (Str × Addr)} {p1 p2 p3 p4 p5 p6 p7 p8 p9 : Pos} {k : Int} {t : Tok} {C I D : Addr} {oC oI oD : Obj} {m₂ : Str → Option Value} {h : Heap} {tk : Nat} {Q' : Bool → Shared → Prop} {E' : Value → Shared → Prop} (lfirst : cl.lookup (Str.ofString "first") = some cfirst) (lwd : cl.lookup (Str.ofString "wd") = some cwd) (mfirst : (cfirst, ofirst) ∈ news) (dfirst : ofirst.data = .cell (some (.int xfirst tfirst))) (mwd : (cwd, owd) ∈ news) (dwd : owd.data = .cell (some (.int xwd twd))) (kf : (compEnvC { kind := ScopeKind.function, names := [(Str.ofString ".0", NameKind.local), (Str.ofString "k", NameKind.local), (Str.ofString "first", NameKind.free), (Str.ofString "wd", NameKind.free)], isGenerator := false, isCoroutine := false } cl C env).scope.kind = .function) (kk : (compEnvC { kind := ScopeKind.function, names := [(Str.ofString ".0", NameKind.local), (Str.ofString "k", NameKind.local), (Str.ofString "first", NameKind.free), (Str.ofString "wd", NameKind.free)], isGenerator := false, isCoroutine := false } cl C env).kindOf (Str.ofString "k") = some .local) (kfirst : (compEnvC { kind := ScopeKind.function, names := [(Str.ofString ".0", NameKind.local), (Str.ofString "k", NameKind.local), (Str.ofString "first", NameKind.free), (Str.ofString "wd", NameKind.free)], isGenerator := false, isCoroutine := false } cl C env).kindOf (Str.ofString "first") = some .cell) (kwd : (compEnvC { kind := ScopeKind.function, names := [(Str.ofString ".0", NameKind.local), (Str.ofString "k", NameKind.local), (Str.ofString "first", NameKind.free), (Str.ofString "wd", NameKind.free)], isGenerator := false, isCoroutine := false } cl C env).kindOf (Str.ofString "wd") = some .cell)
    (hC : LCg.NsObj oC m₂) (hx : m₂ (Str.ofString "k") = some (.int k t)) (F : Fr h₀ L h m) (N : News h₀ L h ((I, oI) :: (C, oC) :: (D, oD) :: news)) (K : ∀ tk', Q' (Int.fmod (xfirst + k - 1) 7 == xwd) { s with heap := h, toks := tk' }) :
    wpAny (model prog w) A (isTrue (Expr.Compare (Expr.BinOp (Expr.BinOp (Expr.BinOp (Expr.Name (Str.ofString "first") p1) Operator.Add (Expr.Name (Str.ofString "k") p2) p3) Operator.Sub (Expr.Constant (Const.int 1) 0 p8) p9) Operator.Mod (Expr.Constant (Const.int 7) 0 p4) p5) [CmpOp.Eq] [(Expr.Name (Str.ofString "wd") p6)] p7) (compEnvC { kind := ScopeKind.function, names := [(Str.ofString ".0", NameKind.local), (Str.ofString "k", NameKind.local), (Str.ofString "first", NameKind.free), (Str.ofString "wd", NameKind.free)], isGenerator := false, isCoroutine := false } cl C env) (eval (Expr.Compare (Expr.BinOp (Expr.BinOp (Expr.BinOp (Expr.Name (Str.ofString "first") p1) Operator.Add (Expr.Name (Str.ofString "k") p2) p3) Operator.Sub (Expr.Constant (Const.int 1) 0 p8) p9) Operator.Mod (Expr.Constant (Const.int 7) 0 p4) p5) [CmpOp.Eq] [(Expr.Name (Str.ofString "wd") p6)] p7) (compEnvC { kind := ScopeKind.function, names := [(Str.ofString ".0", NameKind.local), (Str.ofString "k", NameKind.local), (Str.ofString "first", NameKind.free), (Str.ofString "wd", NameKind.free)], isGenerator := false, isCoroutine := false } cl C env))) Q' E' { s with heap := h, toks := tk } := by
  refine wpAny_isTrue_Compare1 ?_
  refine wpAny_BinOp ?_
  refine wpAny_BinOp ?_
  refine wpAny_BinOp ?_
  refine kcf_cell N lfirst (.tail _ (.tail _ (.tail _ mfirst))) dfirst ?_ kf kfirst
  try dsimp only
  refine LCgL.ld_own N (.tail _ (.head _)) hC hx ?_ kf kk
  try dsimp only
  refine add_int ?_
  try dsimp only
  refine wpAny_Constant_int ?_
  try dsimp only
  refine sub_int ?_
  try dsimp only
  refine wpAny_Constant_int ?_
  try dsimp only
  refine mod_int' (by decide) ?_
  try dsimp only
  refine kcf_cell N lwd (.tail _ (.tail _ (.tail _ mwd))) dwd ?_ kf kwd
  try dsimp only
  refine eq_int ?_
  try dsimp only
  refine wpAny_truthy_bool ?_
  exact K _
set_option maxHeartbeats 0 in
theorem e_nth  {cl : List (Str × Addr)} {p1 : Pos} {k : Int} {t : Tok} {C I D : Addr} {oC oI oD : Obj} {m₂ : Str → Option Value} {h : Heap} {tk : Nat} {Q' : Value → Shared → Prop} {E' : Value → Shared → Prop}   (kf : (compEnvC { kind := ScopeKind.function, names := [(Str.ofString ".0", NameKind.local), (Str.ofString "k", NameKind.local), (Str.ofString "first", NameKind.free), (Str.ofString "wd", NameKind.free)], isGenerator := false, isCoroutine := false } cl C env).scope.kind = .function) (kk : (compEnvC { kind := ScopeKind.function, names := [(Str.ofString ".0", NameKind.local), (Str.ofString "k", NameKind.local), (Str.ofString "first", NameKind.free), (Str.ofString "wd", NameKind.free)], isGenerator := false, isCoroutine := false } cl C env).kindOf (Str.ofString "k") = some .local) 
    (hC : LCg.NsObj oC m₂) (hx : m₂ (Str.ofString "k") = some (.int k t)) (F : Fr h₀ L h m) (N : News h₀ L h ((I, oI) :: (C, oC) :: (D, oD) :: news)) (K : ∀ t' tk', Q' (.int (k) t') { s with heap := h, toks := tk' }) :
    wpAny (model prog w) A (eval (Expr.Name (Str.ofString "k") p1) (compEnvC { kind := ScopeKind.function, names := [(Str.ofString ".0", NameKind.local), (Str.ofString "k", NameKind.local), (Str.ofString "first", NameKind.free), (Str.ofString "wd", NameKind.free)], isGenerator := false, isCoroutine := false } cl C env)) Q' E' { s with heap := h, toks := tk } := by
  refine LCgL.ld_own N (.tail _ (.head _)) hC hx ?_ kf kk
  try dsimp only
  exact K _ _
theorem rest_sub {cjd : Addr} {ojd : Obj} {xjd : Int} {tjd : Tok} {cwd : Addr} {owd : Obj} {xwd : Int} {twd : Tok} {cl : List (Str × Addr)} {p1 p2 p3 p4 p5 p6 p7 q1 q2 q3 : Pos} {S : List (Addr × Obj) → Prop} {Fin : List Value → List (Addr × Obj) → Prop} {a : Int} {n : Nat} (ljd : cl.lookup (Str.ofString "jd") = some cjd) (lwd : cl.lookup (Str.ofString "wd") = some cwd) (mjd : (cjd, ojd) ∈ news) (djd : ojd.data = .cell (some (.int xjd tjd))) (mwd : (cwd, owd) ∈ news) (dwd : owd.data = .cell (some (.int xwd twd))) (kf : ∀ C, (compEnvC { kind := ScopeKind.function, names := [(Str.ofString ".0", NameKind.local), (Str.ofString "k", NameKind.local), (Str.ofString "jd", NameKind.free), (Str.ofString "wd", NameKind.free)], isGenerator := false, isCoroutine := false } cl C env).scope.kind = .function) (kk : ∀ C, (compEnvC { kind := ScopeKind.function, names := [(Str.ofString ".0", NameKind.local), (Str.ofString "k", NameKind.local), (Str.ofString "jd", NameKind.free), (Str.ofString "wd", NameKind.free)], isGenerator := false, isCoroutine := false } cl C env).kindOf (Str.ofString "k") = some .local) (kjd : ∀ C, (compEnvC { kind := ScopeKind.function, names := [(Str.ofString ".0", NameKind.local), (Str.ofString "k", NameKind.local), (Str.ofString "jd", NameKind.free), (Str.ofString "wd", NameKind.free)], isGenerator := false, isCoroutine := false } cl C env).kindOf (Str.ofString "jd") = some .cell) (kwd : ∀ C, (compEnvC { kind := ScopeKind.function, names := [(Str.ofString ".0", NameKind.local), (Str.ofString "k", NameKind.local), (Str.ofString "jd", NameKind.free), (Str.ofString "wd", NameKind.free)], isGenerator := false, isCoroutine := false } cl C env).kindOf (Str.ofString "wd") = some .cell) (hS : S news)
    (fin : ∀ us, IntsAre us ([] ++ ((rangeKs (a + ((0 : Nat) : Int)) n).filter fun k => Int.fmod (xjd - k) 7 == xwd).map (fun k => xjd - k)) → Fin us news) :
    LCt.CompRestT prog w A h₀ L m env (Expr.Compare (Expr.BinOp (Expr.BinOp (Expr.Name (Str.ofString "jd") p1) Operator.Sub (Expr.Name (Str.ofString "k") p2) p3) Operator.Mod (Expr.Constant (Const.int 7) 0 p4) p5) [CmpOp.Eq] [(Expr.Name (Str.ofString "wd") p6)] p7) (Expr.BinOp (Expr.Name (Str.ofString "jd") q1) Operator.Sub (Expr.Name (Str.ofString "k") q2) q3) (Str.ofString "k") { kind := ScopeKind.function, names := [(Str.ofString ".0", NameKind.local), (Str.ofString "k", NameKind.local), (Str.ofString "jd", NameKind.free), (Str.ofString "wd", NameKind.free)], isGenerator := false, isCoroutine := false } cl s S (fun i v => ∃ t, v = .int (a + (i : Int)) t) Fin n 0 [] news :=
  ctest_range (fun k => Int.fmod (xjd - k) 7 == xwd) (fun k => xjd - k) hS (fun k t I oI C oC D m₂ ys h tk Q' E' hC hx F N off ne K => t_sub ljd lwd mjd djd mwd dwd (kf _) (kk _) (kjd _) (kwd _) hC hx F N K)
    (fun k t I oI C oC D m₂ ys h tk Q' E' hC hx F N off ne K => e_sub ljd mjd djd (kf _) (kk _) (kjd _) hC hx F N K) n 0 [] [] .nil fin
theorem rest_add {cjd : Addr} {ojd : Obj} {xjd : Int} {tjd : Tok} {cwd : Addr} {owd : Obj} {xwd : Int} {twd : Tok} {cl : List (Str × Addr)} {p1 p2 p3 p4 p5 p6 p7 q1 q2 q3 : Pos} {S : List (Addr × Obj) → Prop} {Fin : List Value → List (Addr × Obj) → Prop} {a : Int} {n : Nat} (ljd : cl.lookup (Str.ofString "jd") = some cjd) (lwd : cl.lookup (Str.ofString "wd") = some cwd) (mjd : (cjd, ojd) ∈ news) (djd : ojd.data = .cell (some (.int xjd tjd))) (mwd : (cwd, owd) ∈ news) (dwd : owd.data = .cell (some (.int xwd twd))) (kf : ∀ C, (compEnvC { kind := ScopeKind.function, names := [(Str.ofString ".0", NameKind.local), (Str.ofString "k", NameKind.local), (Str.ofString "jd", NameKind.free), (Str.ofString "wd", NameKind.free)], isGenerator := false, isCoroutine := false } cl C env).scope.kind = .function) (kk : ∀ C, (compEnvC { kind := ScopeKind.function, names := [(Str.ofString ".0", NameKind.local), (Str.ofString "k", NameKind.local), (Str.ofString "jd", NameKind.free), (Str.ofString "wd", NameKind.free)], isGenerator := false, isCoroutine := false } cl C env).kindOf (Str.ofString "k") = some .local) (kjd : ∀ C, (compEnvC { kind := ScopeKind.function, names := [(Str.ofString ".0", NameKind.local), (Str.ofString "k", NameKind.local), (Str.ofString "jd", NameKind.free), (Str.ofString "wd", NameKind.free)], isGenerator := false, isCoroutine := false } cl C env).kindOf (Str.ofString "jd") = some .cell) (kwd : ∀ C, (compEnvC { kind := ScopeKind.function, names := [(Str.ofString ".0", NameKind.local), (Str.ofString "k", NameKind.local), (Str.ofString "jd", NameKind.free), (Str.ofString "wd", NameKind.free)], isGenerator := false, isCoroutine := false } cl C env).kindOf (Str.ofString "wd") = some .cell) (hS : S news)
    (fin : ∀ us, IntsAre us ([] ++ ((rangeKs (a + ((0 : Nat) : Int)) n).filter fun k => Int.fmod (xjd + k) 7 == xwd).map (fun k => xjd + k)) → Fin us news) :
    LCt.CompRestT prog w A h₀ L m env (Expr.Compare (Expr.BinOp (Expr.BinOp (Expr.Name (Str.ofString "jd") p1) Operator.Add (Expr.Name (Str.ofString "k") p2) p3) Operator.Mod (Expr.Constant (Const.int 7) 0 p4) p5) [CmpOp.Eq] [(Expr.Name (Str.ofString "wd") p6)] p7) (Expr.BinOp (Expr.Name (Str.ofString "jd") q1) Operator.Add (Expr.Name (Str.ofString "k") q2) q3) (Str.ofString "k") { kind := ScopeKind.function, names := [(Str.ofString ".0", NameKind.local), (Str.ofString "k", NameKind.local), (Str.ofString "jd", NameKind.free), (Str.ofString "wd", NameKind.free)], isGenerator := false, isCoroutine := false } cl s S (fun i v => ∃ t, v = .int (a + (i : Int)) t) Fin n 0 [] news :=
  ctest_range (fun k => Int.fmod (xjd + k) 7 == xwd) (fun k => xjd + k) hS (fun k t I oI C oC D m₂ ys h tk Q' E' hC hx F N off ne K => t_add ljd lwd mjd djd mwd dwd (kf _) (kk _) (kjd _) (kwd _) hC hx F N K)
    (fun k t I oI C oC D m₂ ys h tk Q' E' hC hx F N off ne K => e_add ljd mjd djd (kf _) (kk _) (kjd _) hC hx F N K) n 0 [] [] .nil fin
theorem rest_nth {cfirst : Addr} {ofirst : Obj} {xfirst : Int} {tfirst : Tok} {cwd : Addr} {owd : Obj} {xwd : Int} {twd : Tok} {cl : List (Str × Addr)} {p1 p2 p3 p4 p5 p6 p7 p8 p9 q1 : Pos} {S : List (Addr × Obj) → Prop} {Fin : List Value → List (Addr × Obj) → Prop} {a : Int} {n : Nat} (lfirst : cl.lookup (Str.ofString "first") = some cfirst) (lwd : cl.lookup (Str.ofString "wd") = some cwd) (mfirst : (cfirst, ofirst) ∈ news) (dfirst : ofirst.data = .cell (some (.int xfirst tfirst))) (mwd : (cwd, owd) ∈ news) (dwd : owd.data = .cell (some (.int xwd twd))) (kf : ∀ C, (compEnvC { kind := ScopeKind.function, names := [(Str.ofString ".0", NameKind.local), (Str.ofString "k", NameKind.local), (Str.ofString "first", NameKind.free), (Str.ofString "wd", NameKind.free)], isGenerator := false, isCoroutine := false } cl C env).scope.kind = .function) (kk : ∀ C, (compEnvC { kind := ScopeKind.function, names := [(Str.ofString ".0", NameKind.local), (Str.ofString "k", NameKind.local), (Str.ofString "first", NameKind.free), (Str.ofString "wd", NameKind.free)], isGenerator := false, isCoroutine := false } cl C env).kindOf (Str.ofString "k") = some .local) (kfirst : ∀ C, (compEnvC { kind := ScopeKind.function, names := [(Str.ofString ".0", NameKind.local), (Str.ofString "k", NameKind.local), (Str.ofString "first", NameKind.free), (Str.ofString "wd", NameKind.free)], isGenerator := false, isCoroutine := false } cl C env).kindOf (Str.ofString "first") = some .cell) (kwd : ∀ C, (compEnvC { kind := ScopeKind.function, names := [(Str.ofString ".0", NameKind.local), (Str.ofString "k", NameKind.local), (Str.ofString "first", NameKind.free), (Str.ofString "wd", NameKind.free)], isGenerator := false, isCoroutine := false } cl C env).kindOf (Str.ofString "wd") = some .cell) (hS : S news)
    (fin : ∀ us, IntsAre us ([] ++ ((rangeKs (a + ((0 : Nat) : Int)) n).filter fun k => Int.fmod (xfirst + k - 1) 7 == xwd).map (fun k => k)) → Fin us news) :
    LCt.CompRestT prog w A h₀ L m env (Expr.Compare (Expr.BinOp (Expr.BinOp (Expr.BinOp (Expr.Name (Str.ofString "first") p1) Operator.Add (Expr.Name (Str.ofString "k") p2) p3) Operator.Sub (Expr.Constant (Const.int 1) 0 p8) p9) Operator.Mod (Expr.Constant (Const.int 7) 0 p4) p5) [CmpOp.Eq] [(Expr.Name (Str.ofString "wd") p6)] p7) (Expr.Name (Str.ofString "k") q1) (Str.ofString "k") { kind := ScopeKind.function, names := [(Str.ofString ".0", NameKind.local), (Str.ofString "k", NameKind.local), (Str.ofString "first", NameKind.free), (Str.ofString "wd", NameKind.free)], isGenerator := false, isCoroutine := false } cl s S (fun i v => ∃ t, v = .int (a + (i : Int)) t) Fin n 0 [] news :=
  ctest_range (fun k => Int.fmod (xfirst + k - 1) 7 == xwd) (fun k => k) hS (fun k t I oI C oC D m₂ ys h tk Q' E' hC hx F N off ne K => t_nth lfirst lwd mfirst dfirst mwd dwd (kf _) (kk _) (kfirst _) (kwd _) hC hx F N K)
    (fun k t I oI C oC D m₂ ys h tk Q' E' hC hx F N off ne K => e_nth   (kf _) (kk _)  hC hx F N K) n 0 [] [] .nil fin
end
-- part G1
theorem ln_G1_1 : True := by
  k_with_none
  (k_with "execs cons" => (k_here; (try dsimp only); k_gentoks))
  (k_with "execs nil" => (k_here; (try dsimp only); k_gentoks))
  (k_with "binaryOp Mult ref int" => (k_here; k_dflt (refine' mul_none ?FZq ?NZq ?mZq ?aZq ?bZq ?_; (case FZq => k_asm); (case NZq => k_asm); (case mZq => k_mem); (case aZq => omega); (case bZq => omega); k_whole; intro D h' F' N' l1; (try k_lt l1); walk_say "MUL")))
  (k_with "binaryOp Mult int ref" => (k_here; k_dflt (refine' mul_none_r ?FZq ?NZq ?mZq ?aZq ?bZq ?_; (case FZq => k_asm); (case NZq => k_asm); (case mZq => k_mem); (case aZq => omega); (case bZq => omega); k_whole; intro D h' F' N' l1; (try k_lt l1); walk_say "MUL")))
  (k_with "binaryOp Add ref ref" => (k_here; k_dflt (refine' add_made ?FZq ?NZq ?mZq ?nZq ?zZq ?_; (case FZq => k_asm); (case NZq => k_asm); (case mZq => k_mem); (case nZq => k_mem); (case zZq => (have hL9 := IntsAre.length (by assumption : IntsAre _ (rangeKs _ _)); simp only [rangeKs, List.length_map, List.length_range, List.length_append, List.length_replicate] at hL9 ⊢; omega)); k_whole; intro D h' F' N' l1; (try k_lt l1); walk_say "ADD")))
  (k_with "eval ListComp" => (k_here; refine stop_here ?_))
  (k_with "subscriptTail Name Slice ref ref" => (k_here; (with_reducible show wpAny _ _ (subscriptTail _ (Expr.Slice _ _ none _) (Value.ref _) (Value.ref _)) _ _ _); (with_unfolding_all refine' slice_listK ?lZq ?pZq ?qZq ?_ ?sZq ?tZq ?zZq; (case lZq => kmk_list); (case pZq => kmk_part); (case qZq => kmk_part); (case sZq => with_unfolding_all rfl); (case tZq => intro _; with_unfolding_all rfl); (case zZq => ((have hL9 := IntsAre.length (by assumption : IntsAre _ (rangeKs _ _))); (simp only [rangeKs, List.length_map, List.length_range, List.length_append, List.length_replicate, List.size_toArray] at hL9 ⊢); rw [PySem.sizeLine_eq]; omega))); walk_say "SLICE OF DAYS"))
  (k_with "SeqLeaf" => (k_here; refine stop_here ?_))
  trivial
set_option maxHeartbeats 0 in
theorem c_help (st ln : Int) (tst tln : Tok) (h0 : 0 ≤ st ∧ st ≤ 6) (h1 : 5 ≤ ln ∧ ln ≤ 31) : Con 8 111 [.int st tst, .int ln tln] (PG (gridD (Int.fmod (st + 1) 7).toNat ln.toNat)) := by
  have hlp : 0 ≤ Int.fmod (st + 1) 7 ∧ Int.fmod (st + 1) 7 ≤ 6 := by rw [Int.fmod_eq_emod_of_nonneg _ (by decide)]; omega
  unfold Con
  k_fill
  w_on
  intros; rename_i hret
  refine wpAny_call ?_
  k_dflt (refine' code_pC ?k1 ?k2 ?k3 ?k4 ?k5 ?kA ?kF ?kK ?k6 ?k7 ?k8 ?k9 ?kB ?kD ?_ ?c2 ?c3 ?c4; (case kA => exact rfl); (case kF => exact rfl); (case kK => assumption); (case k1 => k_asm); (case k2 => k_asm); (case k3 => k_asm); (case k4 => k_asm); (case k5 => k_asm); (case k6 => k_is); (case k7 => k_is); (case k8 => first | exact Nat.lt_of_le_of_lt (Nat.le_add_right _ _) (by assumption) | ktr_room); (case k9 => first | exact BindsTo.of_eq rfl | exact binds_K (by k_in) rfl (by k_is) rfl rfl rfl); (case kB => exact rfl); (case kD => decide +kernel); (case c2 => exact rfl); (case c3 => exact rfl); (case c4 => exact rfl); k_whole; intro g' L' h' tk' cells' FG' F' N' Y' B' X' T'; k_cells Y'; (try simp only [List.cons_append, List.nil_append] at N'); (try dsimp only); (try k_lift B'); (try k_fold))
  k_steps

  unfold StopHere
  k_dflt (refine' @lc_rows _ _ _ _ _ _ _ _ ?kF _ _ _ _ _ _ _ _ _ _ (fun _ => true) (fun a => kqdPs (((daysD (Int.fmod (st + 1) 7).toNat ln.toNat).drop a.toNat).take 7)) ?hh ?hclos ?hcell ?hkind ?hnames ?hx (wpAny_rangePackO ?h) ?hs; (case kF => k_asm); (case hh => exact rfl); (case hclos => with_unfolding_all rfl); (case hcell => decide); (case hkind => exact rfl); (case hnames => decide); (case hx => with_unfolding_all rfl); (case hs => intro _; with_unfolding_all rfl))
  k_steps
  · unfold StopHere
    exact SeqLeaf.intro ⟨rfl, _, _, rfl, fun _ _ e => e⟩
  · unfold StopHere
    refine SeqLeaf.intro ?_
    have hI9 : IntsAre _ (rangeKs 1 (1 + ln - 1).toNat) := (by assumption)
    rw [show (1 + ln - 1).toNat = ln.toNat by omega] at hI9
    with_unfolding_all exact leaf_rows (days_carried hI9) (mem_range7 (by assumption))
  · refine end_grid (g := g') (L' := L') (n := (Builtin.Range.rangeSize 0 ((st + 1).fmod 7 + ln) 7).toNat) hret FG' (by assumption) (by k_asm) (by assumption) (by assumption) (by assumption) (by assumption) (by assumption) (size7 hlp.1 (by omega))
-- part M0
theorem ln_M0_1 : True := by
  k_with_none
  (k_with "execs cons" => (k_here; (try dsimp only); k_gentoks))
  (k_with "execs nil" => (k_here; (try dsimp only); k_gentoks))
  (k_with "call ref" => (k_here; k_dflt (refine' con_int (c_jwday _ _) ?k1Zq ?k2Zq ?k3Zq ?k4Zq ?k5Zq ?kKZq ?kdZq ?kuZq ?_; (case k1Zq => k_asm); (case k2Zq => k_asm); (case k3Zq => k_asm); (case k4Zq => k_asm); (case k5Zq => k_asm); (case kKZq => first | exact rfl | assumption); (case kdZq => first | exact room_of (by assumption) (by rfl) | ktr_room); (case kuZq => first | exact units_of (by assumption) (by rfl) | ktr_units)); intro t9 h9 tk9 F9 N9; (try dsimp only); (try k_fold); walk_say "USE c_jwday"))
  (k_with "call ref" => (k_here; k_dflt (refine' con_int (c_jdC _ _ _ _ _) ?k1Zq ?k2Zq ?k3Zq ?k4Zq ?k5Zq ?kKZq ?kdZq ?kuZq ?_; (case k1Zq => k_asm); (case k2Zq => k_asm); (case k3Zq => k_asm); (case k4Zq => k_asm); (case k5Zq => k_asm); (case kKZq => first | exact rfl | assumption); (case kdZq => first | exact room_of (by assumption) (by rfl) | ktr_room); (case kuZq => first | exact units_of (by assumption) (by rfl) | ktr_units)); intro t9 h9 tk9 F9 N9; (try dsimp only); (try k_fold); walk_say "USE c_jdC"))
  (k_with "call ref" => (k_here; k_dflt (refine' con_int (c_jdI _ _ _ _ _) ?k1Zq ?k2Zq ?k3Zq ?k4Zq ?k5Zq ?kKZq ?kdZq ?kuZq ?_; (case k1Zq => k_asm); (case k2Zq => k_asm); (case k3Zq => k_asm); (case k4Zq => k_asm); (case k5Zq => k_asm); (case kKZq => first | exact rfl | assumption); (case kdZq => first | exact room_of (by assumption) (by rfl) | ktr_room); (case kuZq => first | exact units_of (by assumption) (by rfl) | ktr_units)); intro t9 h9 tk9 F9 N9; (try dsimp only); (try k_fold); walk_say "USE c_jdI"))
  (k_with "call ref" => (k_here; k_dflt (refine' con_int (c_mlJ _ _ _ _) ?k1Zq ?k2Zq ?k3Zq ?k4Zq ?k5Zq ?kKZq ?kdZq ?kuZq ?_; (case k1Zq => k_asm); (case k2Zq => k_asm); (case k3Zq => k_asm); (case k4Zq => k_asm); (case k5Zq => k_asm); (case kKZq => first | exact rfl | assumption); (case kdZq => first | exact room_of (by assumption) (by rfl) | ktr_room); (case kuZq => first | exact units_of (by assumption) (by rfl) | ktr_units)); intro t9 h9 tk9 F9 N9; (try dsimp only); (try k_fold); walk_say "USE c_mlJ"))
  (k_with "call ref" => (k_here; k_dflt (refine' con_int (c_mlI _ _ _ _) ?k1Zq ?k2Zq ?k3Zq ?k4Zq ?k5Zq ?kKZq ?kdZq ?kuZq ?_; (case k1Zq => k_asm); (case k2Zq => k_asm); (case k3Zq => k_asm); (case k4Zq => k_asm); (case k5Zq => k_asm); (case kKZq => first | exact rfl | assumption); (case kdZq => first | exact room_of (by assumption) (by rfl) | ktr_room); (case kuZq => first | exact units_of (by assumption) (by rfl) | ktr_units)); intro t9 h9 tk9 F9 N9; (try dsimp only); (try k_fold); walk_say "USE c_mlI"))
  (k_with "call ref" => (k_here; k_dflt (refine' con_int (c_jdG _ _ _ _ _ _ ?p0Zq) ?k1Zq ?k2Zq ?k3Zq ?k4Zq ?k5Zq ?kKZq ?kdZq ?kuZq ?_; (case p0Zq => first | assumption | omega | l_fact | (simp_all; done) | (simp_all; omega)); (case k1Zq => k_asm); (case k2Zq => k_asm); (case k3Zq => k_asm); (case k4Zq => k_asm); (case k5Zq => k_asm); (case kKZq => first | exact rfl | assumption); (case kdZq => first | exact room_of (by assumption) (by rfl) | ktr_room); (case kuZq => first | exact units_of (by assumption) (by rfl) | ktr_units)); intro t9 h9 tk9 F9 N9; (try dsimp only); (try k_fold); walk_say "USE c_jdG"))
  (k_with "call ref" => (k_here; k_dflt (refine' con_int (c_mlG _ _ _ _ ?p0Zq) ?k1Zq ?k2Zq ?k3Zq ?k4Zq ?k5Zq ?kKZq ?kdZq ?kuZq ?_; (case p0Zq => first | assumption | omega | l_fact | (simp_all; done) | (simp_all; omega)); (case k1Zq => k_asm); (case k2Zq => k_asm); (case k3Zq => k_asm); (case k4Zq => k_asm); (case k5Zq => k_asm); (case kKZq => first | exact rfl | assumption); (case kdZq => first | exact room_of (by assumption) (by rfl) | ktr_room); (case kuZq => first | exact units_of (by assumption) (by rfl) | ktr_units)); intro t9 h9 tk9 F9 N9; (try dsimp only); (try k_fold); walk_say "USE c_mlG"))
  (k_with "call ref" => (k_here; k_dflt (refine' con_int (c_jdJ _ _ _ _ _) ?k1Zq ?k2Zq ?k3Zq ?k4Zq ?k5Zq ?kKZq ?kdZq ?kuZq ?_; (case k1Zq => k_asm); (case k2Zq => k_asm); (case k3Zq => k_asm); (case k4Zq => k_asm); (case k5Zq => k_asm); (case kKZq => first | exact rfl | assumption); (case kdZq => first | exact room_of (by assumption) (by rfl) | ktr_room); (case kuZq => first | exact units_of (by assumption) (by rfl) | ktr_units)); intro t9 h9 tk9 F9 N9; (try dsimp only); (try k_fold); walk_say "USE c_jdJ"))
  (k_with "call ref" => (k_here; k_dflt (refine' con_int (c_jdA4 _ _ _ _ _ ?p0Zq ?p1Zq) ?k1Zq ?k2Zq ?k3Zq ?k4Zq ?k5Zq ?kKZq ?kdZq ?kuZq ?_; (case p0Zq => first | assumption | omega | l_fact | (simp_all; done) | (simp_all; omega)); (case p1Zq => first | assumption | omega | l_fact | (simp_all; done) | (simp_all; omega)); (case k1Zq => k_asm); (case k2Zq => k_asm); (case k3Zq => k_asm); (case k4Zq => k_asm); (case k5Zq => k_asm); (case kKZq => first | exact rfl | assumption); (case kdZq => first | exact room_of (by assumption) (by rfl) | ktr_room); (case kuZq => first | exact units_of (by assumption) (by rfl) | ktr_units)); intro t9 h9 tk9 F9 N9; (try dsimp only); (try k_fold); walk_say "USE c_jdA4"))
  (k_with "call ref" => (k_here; k_dflt (refine' con_int (c_jdD _ _ _ _ _ ?p0Zq) ?k1Zq ?k2Zq ?k3Zq ?k4Zq ?k5Zq ?kKZq ?kdZq ?kuZq ?_; (case p0Zq => first | assumption | omega | l_fact | (simp_all; done) | (simp_all; omega)); (case k1Zq => k_asm); (case k2Zq => k_asm); (case k3Zq => k_asm); (case k4Zq => k_asm); (case k5Zq => k_asm); (case kKZq => first | exact rfl | assumption); (case kdZq => first | exact room_of (by assumption) (by rfl) | ktr_room); (case kuZq => first | exact units_of (by assumption) (by rfl) | ktr_units)); intro t9 h9 tk9 F9 N9; (try dsimp only); (try k_fold); walk_say "USE c_jdD"))
  (k_with "call ref" => (k_here; k_dflt (refine' con_grid (c_help _ _ _ _ ?p0Zq ?p1Zq) ?k1Zq ?k2Zq ?k3Zq ?k4Zq ?k5Zq ?kKZq ?kdZq ?kuZq ?_; (case p0Zq => first | assumption | omega | l_fact | (simp_all; done) | (simp_all; omega)); (case p1Zq => first | assumption | omega | l_fact | (simp_all; done) | (simp_all; omega)); (case k1Zq => k_asm); (case k2Zq => k_asm); (case k3Zq => k_asm); (case k4Zq => k_asm); (case k5Zq => k_asm); (case kKZq => first | exact rfl | assumption); (case kdZq => first | exact room_of (by assumption) (by rfl) | ktr_room); (case kuZq => first | exact units_of (by assumption) (by rfl) | ktr_units)); intro a9 tl9 h9 tk9 G9 F9 N9 l9; (try dsimp only); (try k_fold); walk_say "USE c_help"))
  trivial
def mlC (y m : Int) : Int := if m = 13 then (if Int.fmod y 4 = 3 then 6 else 5) else 30
def mlA (m : Int) : Int := if m = 13 then 5 else 30
def mlD (m : Int) : Int := if m ≤ 6 then 31 else 30
theorem mlC_b (y m : Int) : 5 ≤ mlC y m ∧ mlC y m ≤ 30 := by unfold mlC; (repeat' split) <;> omega
theorem mlA_b (m : Int) : 5 ≤ mlA m ∧ mlA m ≤ 30 := by unfold mlA; split <;> omega
theorem mlD_b (m : Int) : 30 ≤ mlD m ∧ mlD m ≤ 31 := by unfold mlD; split <;> omega
theorem eA1 {l : Int} (h : l ≠ 13) : 30 = mlA l := (if_neg h).symm
theorem eA2 {l : Int} (h : l = 13) : 5 = mlA l := (if_pos h).symm
theorem bA (l : Int) : 5 ≤ mlA l ∧ mlA l ≤ 31 := by unfold mlA; split <;> decide
theorem c_mlC2 (y m : Int) (ty tm : Tok) (h0 : m ≤ 13) : Con 4 243 [.int y ty, .int m tm] (PI (mlC y m)) := c_mlC y m ty tm h0
theorem c_mlD2 (y m : Int) (ty tm : Tok) (h0 : 2 ≤ m) : Con 4 328 [.int y ty, .int m tm] (PI (mlD m)) := c_mlD y m ty tm h0
theorem c_mlA2 (y m : Int) (ty tm : Tok) (h0 : 1 ≤ m ∧ m ≤ 13) : Con 8 214 [.int y ty, .int m tm] (PI (mlA m)) := c_mlA y m ty tm h0
theorem c_mlA32 (y m : Int) (ty tm : Tok) (h0 : 1 ≤ m ∧ m ≤ 13) : Con 8 214 [.int y ty, .int m tm, .none] (PI (mlA m)) := c_mlA3 y m ty tm h0
theorem mlI_b (y m : Int) : 29 ≤ mlI y m ∧ mlI y m ≤ 30 := by unfold mlI; split <;> omega
theorem mlS_bd (y m : Int) : 5 ≤ mlS y m ∧ mlS y m ≤ 30 := by unfold mlS; (repeat' split) <;> omega
theorem mrL_b (y : Int) {m : Int} (h : 1 ≤ m ∧ m ≤ 12) : 28 ≤ mrL y m ∧ mrL y m ≤ 31 := mrL_bN y h
theorem ln_M0_2 : True := by
  (k_with "call ref" => (k_here; k_dflt (refine' con_int (c_mlC2 _ _ _ _ ?p0Zq) ?k1Zq ?k2Zq ?k3Zq ?k4Zq ?k5Zq ?kKZq ?kdZq ?kuZq ?_; (case p0Zq => first | assumption | omega | l_fact | (simp_all; done) | (simp_all; omega)); (case k1Zq => k_asm); (case k2Zq => k_asm); (case k3Zq => k_asm); (case k4Zq => k_asm); (case k5Zq => k_asm); (case kKZq => first | exact rfl | assumption); (case kdZq => first | exact room_of (by assumption) (by rfl) | ktr_room); (case kuZq => first | exact units_of (by assumption) (by rfl) | ktr_units)); intro t9 h9 tk9 F9 N9; (try dsimp only); (try k_fold); walk_say "USE c_mlC2"))
  (k_with "call ref" => (k_here; k_dflt (refine' con_int (c_mlD2 _ _ _ _ ?p0Zq) ?k1Zq ?k2Zq ?k3Zq ?k4Zq ?k5Zq ?kKZq ?kdZq ?kuZq ?_; (case p0Zq => first | assumption | omega | l_fact | (simp_all; done) | (simp_all; omega)); (case k1Zq => k_asm); (case k2Zq => k_asm); (case k3Zq => k_asm); (case k4Zq => k_asm); (case k5Zq => k_asm); (case kKZq => first | exact rfl | assumption); (case kdZq => first | exact room_of (by assumption) (by rfl) | ktr_room); (case kuZq => first | exact units_of (by assumption) (by rfl) | ktr_units)); intro t9 h9 tk9 F9 N9; (try dsimp only); (try k_fold); walk_say "USE c_mlD2"))
  (k_with "call ref" => (k_here; k_dflt (refine' con_int (c_mlA32 _ _ _ _ ?p0Zq) ?k1Zq ?k2Zq ?k3Zq ?k4Zq ?k5Zq ?kKZq ?kdZq ?kuZq ?_; (case p0Zq => first | assumption | omega | l_fact | (simp_all; done) | (simp_all; omega)); (case k1Zq => k_asm); (case k2Zq => k_asm); (case k3Zq => k_asm); (case k4Zq => k_asm); (case k5Zq => k_asm); (case kKZq => first | exact rfl | assumption); (case kdZq => first | exact room_of (by assumption) (by rfl) | ktr_room); (case kuZq => first | exact units_of (by assumption) (by rfl) | ktr_units)); intro t9 h9 tk9 F9 N9; (try dsimp only); (try k_fold); walk_say "USE c_mlA32"))
  trivial
set_option maxHeartbeats 0 in
theorem c_mcG (y m : Int) (ty tm : Tok) (h0 : 1 ≤ m ∧ m ≤ 12) : Con 14 147 [.int y ty, .int m tm] (PG (gridD (Int.fmod (Int.fmod (jdG y m 1) 7 + 1) 7).toNat (mrL y m : Int).toNat)) := by
  have hst := fm7b (jdG y m 1)
  have hml := mrL_b y h0
  unfold Con
  k_fill
  w_on
  intros; rename_i hret
  refine wpAny_call ?_
  k_dflt (refine' code_p ?k1 ?k2 ?k3 ?k4 ?k5 ?kA ?kF ?kK ?k6 ?k7 ?k8 ?k9 ?kB ?_ ?c2 ?c3 ?c4 ?c5; (case kA => exact rfl); (case kF => exact rfl); (case kK => assumption); (case k1 => k_asm); (case k2 => k_asm); (case k3 => k_asm); (case k4 => k_asm); (case k5 => k_asm); (case k6 => k_is); (case k7 => k_is); (case k8 => first | exact Nat.lt_of_le_of_lt (Nat.le_add_right _ _) (by assumption) | ktr_room); (case k9 => first | exact BindsTo.of_eq rfl | exact binds_K (by k_in) rfl (by k_is) rfl rfl rfl); (case c5 => decide); (case kB => exact locs rfl); (case c2 => exact rfl); (case c3 => exact rfl); (case c4 => exact rfl); k_whole; intro g' L' h' FG' F' N' B' X' T'; (try dsimp only); (try k_lift B'); (try k_fold))
  k_steps
  all_goals (k_dflt (refine' end_gridc hret (by assumption) ?kF ?M ?S ?kN ?N; (case kF => k_asm); (case M => assumption); (case S => assumption); (case kN => k_asm); (case N => k_asm)))
set_option maxHeartbeats 0 in
theorem c_mcJ (y m : Int) (ty tm : Tok)  : Con 14 183 [.int y ty, .int m tm] (PG (gridD (Int.fmod (Int.fmod (jdJ y m 1) 7 + 1) 7).toNat (mlJ y m : Int).toNat)) := by
  have hst := fm7b (jdJ y m 1)
  have hml := mlJ_b y m
  unfold Con
  k_fill
  w_on
  intros; rename_i hret
  refine wpAny_call ?_
  k_dflt (refine' code_p ?k1 ?k2 ?k3 ?k4 ?k5 ?kA ?kF ?kK ?k6 ?k7 ?k8 ?k9 ?kB ?_ ?c2 ?c3 ?c4 ?c5; (case kA => exact rfl); (case kF => exact rfl); (case kK => assumption); (case k1 => k_asm); (case k2 => k_asm); (case k3 => k_asm); (case k4 => k_asm); (case k5 => k_asm); (case k6 => k_is); (case k7 => k_is); (case k8 => first | exact Nat.lt_of_le_of_lt (Nat.le_add_right _ _) (by assumption) | ktr_room); (case k9 => first | exact BindsTo.of_eq rfl | exact binds_K (by k_in) rfl (by k_is) rfl rfl rfl); (case c5 => decide); (case kB => exact locs rfl); (case c2 => exact rfl); (case c3 => exact rfl); (case c4 => exact rfl); k_whole; intro g' L' h' FG' F' N' B' X' T'; (try dsimp only); (try k_lift B'); (try k_fold))
  k_steps
  all_goals (k_dflt (refine' end_gridc hret (by assumption) ?kF ?M ?S ?kN ?N; (case kF => k_asm); (case M => assumption); (case S => assumption); (case kN => k_asm); (case N => k_asm)))
set_option maxHeartbeats 0 in
theorem c_mcA (y m : Int) (ty tm : Tok) (h0 : 533 ≤ y) (h1 : 1 ≤ m ∧ m ≤ 13) : Con 18 222 [.int y ty, .int m tm] (PG (gridD (Int.fmod (Int.fmod (1922502 + 365 * y + ((m - 1) * 30 + 1)) 7 + 1) 7).toNat (mlA m : Int).toNat)) := by
  have hst := fm7b (1922502 + 365 * y + ((m - 1) * 30 + 1))
  have hml := mlA_b m
  unfold Con
  k_fill
  w_on
  intros; rename_i hret
  refine wpAny_call ?_
  k_dflt (refine' code_p ?k1 ?k2 ?k3 ?k4 ?k5 ?kA ?kF ?kK ?k6 ?k7 ?k8 ?k9 ?kB ?_ ?c2 ?c3 ?c4 ?c5; (case kA => exact rfl); (case kF => exact rfl); (case kK => assumption); (case k1 => k_asm); (case k2 => k_asm); (case k3 => k_asm); (case k4 => k_asm); (case k5 => k_asm); (case k6 => k_is); (case k7 => k_is); (case k8 => first | exact Nat.lt_of_le_of_lt (Nat.le_add_right _ _) (by assumption) | ktr_room); (case k9 => first | exact BindsTo.of_eq rfl | exact binds_K (by k_in) rfl (by k_is) rfl rfl rfl); (case c5 => decide); (case kB => exact locs rfl); (case c2 => exact rfl); (case c3 => exact rfl); (case c4 => exact rfl); k_whole; intro g' L' h' FG' F' N' B' X' T'; (try dsimp only); (try k_lift B'); (try k_fold))
  k_steps
  all_goals (k_dflt (refine' end_gridc hret (by assumption) ?kF ?M ?S ?kN ?N; (case kF => k_asm); (case M => assumption); (case S => assumption); (case kN => k_asm); (case N => k_asm)))
set_option maxHeartbeats 0 in
theorem c_mcC (y m : Int) (ty tm : Tok) (h0 : m ≤ 13) : Con 14 250 [.int y ty, .int m tm] (PG (gridD (Int.fmod (Int.fmod (1 + (m - 1) * 30 + (y - 1) * 365 + Int.fdiv y 4 + 1825030 - 1) 7 + 1) 7).toNat (mlC y m : Int).toNat)) := by
  have hst := fm7b (1 + (m - 1) * 30 + (y - 1) * 365 + Int.fdiv y 4 + 1825030 - 1)
  have hml := mlC_b y m
  unfold Con
  k_fill
  w_on
  intros; rename_i hret
  refine wpAny_call ?_
  k_dflt (refine' code_p ?k1 ?k2 ?k3 ?k4 ?k5 ?kA ?kF ?kK ?k6 ?k7 ?k8 ?k9 ?kB ?_ ?c2 ?c3 ?c4 ?c5; (case kA => exact rfl); (case kF => exact rfl); (case kK => assumption); (case k1 => k_asm); (case k2 => k_asm); (case k3 => k_asm); (case k4 => k_asm); (case k5 => k_asm); (case k6 => k_is); (case k7 => k_is); (case k8 => first | exact Nat.lt_of_le_of_lt (Nat.le_add_right _ _) (by assumption) | ktr_room); (case k9 => first | exact BindsTo.of_eq rfl | exact binds_K (by k_in) rfl (by k_is) rfl rfl rfl); (case c5 => decide); (case kB => exact locs rfl); (case c2 => exact rfl); (case c3 => exact rfl); (case c4 => exact rfl); k_whole; intro g' L' h' FG' F' N' B' X' T'; (try dsimp only); (try k_lift B'); (try k_fold))
  k_steps
  all_goals (k_dflt (refine' end_gridc hret (by assumption) ?kF ?M ?S ?kN ?N; (case kF => k_asm); (case M => assumption); (case S => assumption); (case kN => k_asm); (case N => k_asm)))
set_option maxHeartbeats 0 in
theorem c_mcD (y m : Int) (ty tm : Tok) (h0 : 2 ≤ m ∧ m ≤ 12) : Con 18 335 [.int y ty, .int m tm] (PG (gridD (Int.fmod (Int.fmod (jdD y m) 7 + 1) 7).toNat (mlD m : Int).toNat)) := by
  have hst := fm7b (jdD y m)
  have hml := mlD_b m
  unfold Con
  k_fill
  w_on
  intros; rename_i hret
  refine wpAny_call ?_
  k_dflt (refine' code_p ?k1 ?k2 ?k3 ?k4 ?k5 ?kA ?kF ?kK ?k6 ?k7 ?k8 ?k9 ?kB ?_ ?c2 ?c3 ?c4 ?c5; (case kA => exact rfl); (case kF => exact rfl); (case kK => assumption); (case k1 => k_asm); (case k2 => k_asm); (case k3 => k_asm); (case k4 => k_asm); (case k5 => k_asm); (case k6 => k_is); (case k7 => k_is); (case k8 => first | exact Nat.lt_of_le_of_lt (Nat.le_add_right _ _) (by assumption) | ktr_room); (case k9 => first | exact BindsTo.of_eq rfl | exact binds_K (by k_in) rfl (by k_is) rfl rfl rfl); (case c5 => decide); (case kB => exact locs rfl); (case c2 => exact rfl); (case c3 => exact rfl); (case c4 => exact rfl); k_whole; intro g' L' h' FG' F' N' B' X' T'; (try dsimp only); (try k_lift B'); (try k_fold))
  k_steps
  all_goals (k_dflt (refine' end_gridc hret (by assumption) ?kF ?M ?S ?kN ?N; (case kF => k_asm); (case M => assumption); (case S => assumption); (case kN => k_asm); (case N => k_asm)))
set_option maxHeartbeats 0 in
theorem c_mcI (y m : Int) (ty tm : Tok)  : Con 14 364 [.int y ty, .int m tm] (PG (gridD (Int.fmod (Int.fmod (1 + -(Int.fdiv (-59 * (m - 1)) 2) + (y - 1) * 354 + Int.fdiv (3 + 11 * y) 30 + 1948440 - 1) 7 + 1) 7).toNat (mlI y m : Int).toNat)) := by
  have hst := fm7b (1 + -(Int.fdiv (-59 * (m - 1)) 2) + (y - 1) * 354 + Int.fdiv (3 + 11 * y) 30 + 1948440 - 1)
  have hml := mlI_b y m
  unfold Con
  k_fill
  w_on
  intros; rename_i hret
  refine wpAny_call ?_
  k_dflt (refine' code_p ?k1 ?k2 ?k3 ?k4 ?k5 ?kA ?kF ?kK ?k6 ?k7 ?k8 ?k9 ?kB ?_ ?c2 ?c3 ?c4 ?c5; (case kA => exact rfl); (case kF => exact rfl); (case kK => assumption); (case k1 => k_asm); (case k2 => k_asm); (case k3 => k_asm); (case k4 => k_asm); (case k5 => k_asm); (case k6 => k_is); (case k7 => k_is); (case k8 => first | exact Nat.lt_of_le_of_lt (Nat.le_add_right _ _) (by assumption) | ktr_room); (case k9 => first | exact BindsTo.of_eq rfl | exact binds_K (by k_in) rfl (by k_is) rfl rfl rfl); (case c5 => decide); (case kB => exact locs rfl); (case c2 => exact rfl); (case c3 => exact rfl); (case c4 => exact rfl); k_whole; intro g' L' h' FG' F' N' B' X' T'; (try dsimp only); (try k_lift B'); (try k_fold))
  k_steps
  all_goals (k_dflt (refine' end_gridc hret (by assumption) ?kF ?M ?S ?kN ?N; (case kF => k_asm); (case M => assumption); (case S => assumption); (case kN => k_asm); (case N => k_asm)))
-- part M1
theorem ln_M1_1 : True := by
  k_with_none
  (k_with "execs cons" => (k_here; (try dsimp only); k_gentoks))
  (k_with "execs nil" => (k_here; (try dsimp only); k_gentoks))
  trivial
set_option maxHeartbeats 0 in
theorem c_sizes_t : Con 4 385 [.bool true] (PL (szL true)) := by
  unfold Con
  k_fill
  w_on
  intros; rename_i hret
  refine wpAny_call ?_
  k_dflt (refine' code_p ?k1 ?k2 ?k3 ?k4 ?k5 ?kA ?kF ?kK ?k6 ?k7 ?k8 ?k9 ?kB ?_ ?c2 ?c3 ?c4 ?c5; (case kA => exact rfl); (case kF => exact rfl); (case kK => assumption); (case k1 => k_asm); (case k2 => k_asm); (case k3 => k_asm); (case k4 => k_asm); (case k5 => k_asm); (case k6 => k_is); (case k7 => k_is); (case k8 => first | exact Nat.lt_of_le_of_lt (Nat.le_add_right _ _) (by assumption) | ktr_room); (case k9 => first | exact BindsTo.of_eq rfl | exact binds_K (by k_in) rfl (by k_is) rfl rfl rfl); (case c5 => decide); (case kB => exact locs rfl); (case c2 => exact rfl); (case c3 => exact rfl); (case c4 => exact rfl); k_whole; intro g' L' h' FG' F' N' B' X' T'; (try dsimp only); (try k_lift B'); (try k_fold))
  k_steps
  all_goals (k_dflt (refine' end_list hret ?kF ?M ?S ?kN ?N ?hi; (case kF => k_asm); (case M => assumption); (case S => assumption); (case kN => k_asm); (case N => k_asm); (case hi => repeat constructor)))
set_option maxHeartbeats 0 in
theorem c_sizes_f : Con 4 385 [.bool false] (PL (szL false)) := by
  unfold Con
  k_fill
  w_on
  intros; rename_i hret
  refine wpAny_call ?_
  k_dflt (refine' code_p ?k1 ?k2 ?k3 ?k4 ?k5 ?kA ?kF ?kK ?k6 ?k7 ?k8 ?k9 ?kB ?_ ?c2 ?c3 ?c4 ?c5; (case kA => exact rfl); (case kF => exact rfl); (case kK => assumption); (case k1 => k_asm); (case k2 => k_asm); (case k3 => k_asm); (case k4 => k_asm); (case k5 => k_asm); (case k6 => k_is); (case k7 => k_is); (case k8 => first | exact Nat.lt_of_le_of_lt (Nat.le_add_right _ _) (by assumption) | ktr_room); (case k9 => first | exact BindsTo.of_eq rfl | exact binds_K (by k_in) rfl (by k_is) rfl rfl rfl); (case c5 => decide); (case kB => exact locs rfl); (case c2 => exact rfl); (case c3 => exact rfl); (case c4 => exact rfl); k_whole; intro g' L' h' FG' F' N' B' X' T'; (try dsimp only); (try k_lift B'); (try k_fold))
  k_steps
  all_goals (k_dflt (refine' end_list hret ?kF ?M ?S ?kN ?N ?hi; (case kF => k_asm); (case M => assumption); (case S => assumption); (case kN => k_asm); (case N => k_asm); (case hi => repeat constructor)))
theorem c_sizes (b : Bool) : Con 4 385 [.bool b] (PL (szL b)) := by
  cases b
  · exact c_sizes_f
  · exact c_sizes_t
-- part L4
theorem ln_L4_1 : True := by
  k_with_none
  (k_with "execs cons" => (k_here; (try dsimp only); k_gentoks))
  (k_with "execs nil" => (k_here; (try dsimp only); k_gentoks))
  (k_with "call ref" => (k_here; k_dflt (refine' con_int (c_jwday _ _) ?k1Zq ?k2Zq ?k3Zq ?k4Zq ?k5Zq ?kKZq ?kdZq ?kuZq ?_; (case k1Zq => k_asm); (case k2Zq => k_asm); (case k3Zq => k_asm); (case k4Zq => k_asm); (case k5Zq => k_asm); (case kKZq => first | exact rfl | assumption); (case kdZq => first | exact room_of (by assumption) (by rfl) | ktr_room); (case kuZq => first | exact units_of (by assumption) (by rfl) | ktr_units)); intro t9 h9 tk9 F9 N9; (try dsimp only); (try k_fold); walk_say "USE c_jwday"))
  trivial
def wb (w j : Int) : Int := j - Int.fmod (j - w) 7
def nwk (w j k : Int) : Int := if 0 < k then 7 * k + wb w (j + -1) else 7 * k + wb w (j + 7)

theorem wb_emod (w j : Int) : wb w j = j - (j - w) % 7 := by unfold wb; rw [Int.fmod_eq_emod_of_nonneg _ (by decide)]
theorem fm7 (a : Int) : Int.fmod a 7 = a % 7 := Int.fmod_eq_emod_of_nonneg _ (by decide)
set_option maxHeartbeats 0 in
theorem c_wb (w j : Int) (tw tj : Tok)  : Con 4 57 [.int w tw, .int j tj] (PI (wb w j)) := by
  unfold Con
  k_fill
  w_on
  intros; rename_i hret
  refine wpAny_call ?_
  k_dflt (refine' code_p ?k1 ?k2 ?k3 ?k4 ?k5 ?kA ?kF ?kK ?k6 ?k7 ?k8 ?k9 ?kB ?_ ?c2 ?c3 ?c4 ?c5; (case kA => exact rfl); (case kF => exact rfl); (case kK => assumption); (case k1 => k_asm); (case k2 => k_asm); (case k3 => k_asm); (case k4 => k_asm); (case k5 => k_asm); (case k6 => k_is); (case k7 => k_is); (case k8 => first | exact Nat.lt_of_le_of_lt (Nat.le_add_right _ _) (by assumption) | ktr_room); (case k9 => first | exact BindsTo.of_eq rfl | exact binds_K (by k_in) rfl (by k_is) rfl rfl rfl); (case c5 => decide); (case kB => exact locs rfl); (case c2 => exact rfl); (case c3 => exact rfl); (case c4 => exact rfl); k_whole; intro g' L' h' FG' F' N' B' X' T'; (try dsimp only); (try k_lift B'); (try k_fold))
  k_steps
  all_goals (refine hret _ [] _ _ ⟨rfl, _, congrArg (Value.int · _) ?_⟩ (by k_asm) ((by assumption : ∀ tl, News _ _ _ tl → News _ _ _ (tl ++ _)) [] News.nil) (fun _ h => nomatch h))
  all_goals rfl
theorem ln_L4_2 : True := by
  (k_with "call ref" => (k_here; k_dflt (refine' con_int (c_wb _ _ _ _) ?k1Zq ?k2Zq ?k3Zq ?k4Zq ?k5Zq ?kKZq ?kdZq ?kuZq ?_; (case k1Zq => k_asm); (case k2Zq => k_asm); (case k3Zq => k_asm); (case k4Zq => k_asm); (case k5Zq => k_asm); (case kKZq => first | exact rfl | assumption); (case kdZq => first | exact room_of (by assumption) (by rfl) | ktr_room); (case kuZq => first | exact units_of (by assumption) (by rfl) | ktr_units)); intro t9 h9 tk9 F9 N9; (try dsimp only); (try k_fold); walk_say "USE c_wb"))
  trivial
set_option maxHeartbeats 0 in
theorem c_sw_near (w j : Int) (tw tj : Tok) (ta tb : Tok)  : Con 8 64 [.int w tw, .int j tj, .int 1 ta, .int 3 tb] (PI (wb w (j + 3))) := by
  unfold Con
  k_fill
  w_on
  intros; rename_i hret
  refine wpAny_call ?_
  k_dflt (refine' code_p ?k1 ?k2 ?k3 ?k4 ?k5 ?kA ?kF ?kK ?k6 ?k7 ?k8 ?k9 ?kB ?_ ?c2 ?c3 ?c4 ?c5; (case kA => exact rfl); (case kF => exact rfl); (case kK => assumption); (case k1 => k_asm); (case k2 => k_asm); (case k3 => k_asm); (case k4 => k_asm); (case k5 => k_asm); (case k6 => k_is); (case k7 => k_is); (case k8 => first | exact Nat.lt_of_le_of_lt (Nat.le_add_right _ _) (by assumption) | ktr_room); (case k9 => first | exact BindsTo.of_eq rfl | exact binds_K (by k_in) rfl (by k_is) rfl rfl rfl); (case c5 => decide); (case kB => exact locs rfl); (case c2 => exact rfl); (case c3 => exact rfl); (case c4 => exact rfl); k_whole; intro g' L' h' FG' F' N' B' X' T'; (try dsimp only); (try k_lift B'); (try k_fold))
  k_steps
  all_goals (refine hret _ [] _ _ ⟨rfl, _, congrArg (Value.int · _) ?_⟩ (by k_asm) ((by assumption : ∀ tl, News _ _ _ tl → News _ _ _ (tl ++ _)) [] News.nil) (fun _ h => nomatch h))
  all_goals rfl
theorem ln_L4_3 : True := by
  (k_with "call ref" => (k_here; k_dflt (refine' con_int (c_sw_near _ _ _ _ _ _) ?k1Zq ?k2Zq ?k3Zq ?k4Zq ?k5Zq ?kKZq ?kdZq ?kuZq ?_; (case k1Zq => k_asm); (case k2Zq => k_asm); (case k3Zq => k_asm); (case k4Zq => k_asm); (case k5Zq => k_asm); (case kKZq => first | exact rfl | assumption); (case kdZq => first | exact room_of (by assumption) (by rfl) | ktr_room); (case kuZq => first | exact units_of (by assumption) (by rfl) | ktr_units)); intro t9 h9 tk9 F9 N9; (try dsimp only); (try k_fold); walk_say "USE c_sw_near"))
  trivial
set_option maxHeartbeats 0 in
theorem c_near (w j : Int) (tw tj : Tok)  : Con 12 71 [.int w tw, .int j tj] (PI (wb w (j + 3))) := by
  unfold Con
  k_fill
  w_on
  intros; rename_i hret
  refine wpAny_call ?_
  k_dflt (refine' code_p ?k1 ?k2 ?k3 ?k4 ?k5 ?kA ?kF ?kK ?k6 ?k7 ?k8 ?k9 ?kB ?_ ?c2 ?c3 ?c4 ?c5; (case kA => exact rfl); (case kF => exact rfl); (case kK => assumption); (case k1 => k_asm); (case k2 => k_asm); (case k3 => k_asm); (case k4 => k_asm); (case k5 => k_asm); (case k6 => k_is); (case k7 => k_is); (case k8 => first | exact Nat.lt_of_le_of_lt (Nat.le_add_right _ _) (by assumption) | ktr_room); (case k9 => first | exact BindsTo.of_eq rfl | exact binds_K (by k_in) rfl (by k_is) rfl rfl rfl); (case c5 => decide); (case kB => exact locs rfl); (case c2 => exact rfl); (case c3 => exact rfl); (case c4 => exact rfl); k_whole; intro g' L' h' FG' F' N' B' X' T'; (try dsimp only); (try k_lift B'); (try k_fold))
  k_steps
  all_goals (refine hret _ [] _ _ ⟨rfl, _, congrArg (Value.int · _) ?_⟩ (by k_asm) ((by assumption : ∀ tl, News _ _ _ tl → News _ _ _ (tl ++ _)) [] News.nil) (fun _ h => nomatch h))
  all_goals rfl
set_option maxHeartbeats 0 in
theorem c_sw_next (w j : Int) (tw tj : Tok) (ta tb : Tok)  : Con 8 64 [.int w tw, .int j tj, .int 1 ta, .int 7 tb] (PI (wb w (j + 7))) := by
  unfold Con
  k_fill
  w_on
  intros; rename_i hret
  refine wpAny_call ?_
  k_dflt (refine' code_p ?k1 ?k2 ?k3 ?k4 ?k5 ?kA ?kF ?kK ?k6 ?k7 ?k8 ?k9 ?kB ?_ ?c2 ?c3 ?c4 ?c5; (case kA => exact rfl); (case kF => exact rfl); (case kK => assumption); (case k1 => k_asm); (case k2 => k_asm); (case k3 => k_asm); (case k4 => k_asm); (case k5 => k_asm); (case k6 => k_is); (case k7 => k_is); (case k8 => first | exact Nat.lt_of_le_of_lt (Nat.le_add_right _ _) (by assumption) | ktr_room); (case k9 => first | exact BindsTo.of_eq rfl | exact binds_K (by k_in) rfl (by k_is) rfl rfl rfl); (case c5 => decide); (case kB => exact locs rfl); (case c2 => exact rfl); (case c3 => exact rfl); (case c4 => exact rfl); k_whole; intro g' L' h' FG' F' N' B' X' T'; (try dsimp only); (try k_lift B'); (try k_fold))
  k_steps
  all_goals (refine hret _ [] _ _ ⟨rfl, _, congrArg (Value.int · _) ?_⟩ (by k_asm) ((by assumption : ∀ tl, News _ _ _ tl → News _ _ _ (tl ++ _)) [] News.nil) (fun _ h => nomatch h))
  all_goals rfl
theorem ln_L4_4 : True := by
  (k_with "call ref" => (k_here; k_dflt (refine' con_int (c_sw_next _ _ _ _ _ _) ?k1Zq ?k2Zq ?k3Zq ?k4Zq ?k5Zq ?kKZq ?kdZq ?kuZq ?_; (case k1Zq => k_asm); (case k2Zq => k_asm); (case k3Zq => k_asm); (case k4Zq => k_asm); (case k5Zq => k_asm); (case kKZq => first | exact rfl | assumption); (case kdZq => first | exact room_of (by assumption) (by rfl) | ktr_room); (case kuZq => first | exact units_of (by assumption) (by rfl) | ktr_units)); intro t9 h9 tk9 F9 N9; (try dsimp only); (try k_fold); walk_say "USE c_sw_next"))
  trivial
set_option maxHeartbeats 0 in
theorem c_next (w j : Int) (tw tj : Tok)  : Con 12 78 [.int w tw, .int j tj] (PI (wb w (j + 7))) := by
  unfold Con
  k_fill
  w_on
  intros; rename_i hret
  refine wpAny_call ?_
  k_dflt (refine' code_p ?k1 ?k2 ?k3 ?k4 ?k5 ?kA ?kF ?kK ?k6 ?k7 ?k8 ?k9 ?kB ?_ ?c2 ?c3 ?c4 ?c5; (case kA => exact rfl); (case kF => exact rfl); (case kK => assumption); (case k1 => k_asm); (case k2 => k_asm); (case k3 => k_asm); (case k4 => k_asm); (case k5 => k_asm); (case k6 => k_is); (case k7 => k_is); (case k8 => first | exact Nat.lt_of_le_of_lt (Nat.le_add_right _ _) (by assumption) | ktr_room); (case k9 => first | exact BindsTo.of_eq rfl | exact binds_K (by k_in) rfl (by k_is) rfl rfl rfl); (case c5 => decide); (case kB => exact locs rfl); (case c2 => exact rfl); (case c3 => exact rfl); (case c4 => exact rfl); k_whole; intro g' L' h' FG' F' N' B' X' T'; (try dsimp only); (try k_lift B'); (try k_fold))
  k_steps
  all_goals (refine hret _ [] _ _ ⟨rfl, _, congrArg (Value.int · _) ?_⟩ (by k_asm) ((by assumption : ∀ tl, News _ _ _ tl → News _ _ _ (tl ++ _)) [] News.nil) (fun _ h => nomatch h))
  all_goals rfl
theorem ln_L4_5 : True := by
  (k_with "call ref" => (k_here; k_dflt (refine' con_int (c_next _ _ _ _) ?k1Zq ?k2Zq ?k3Zq ?k4Zq ?k5Zq ?kKZq ?kdZq ?kuZq ?_; (case k1Zq => k_asm); (case k2Zq => k_asm); (case k3Zq => k_asm); (case k4Zq => k_asm); (case k5Zq => k_asm); (case kKZq => first | exact rfl | assumption); (case kdZq => first | exact room_of (by assumption) (by rfl) | ktr_room); (case kuZq => first | exact units_of (by assumption) (by rfl) | ktr_units)); intro t9 h9 tk9 F9 N9; (try dsimp only); (try k_fold); walk_say "USE c_next"))
  trivial
set_option maxHeartbeats 0 in
theorem c_sw_nextc (w j : Int) (tw tj : Tok) (ta tb : Tok)  : Con 8 64 [.int w tw, .int j tj, .int 1 ta, .int 6 tb] (PI (wb w (j + 6))) := by
  unfold Con
  k_fill
  w_on
  intros; rename_i hret
  refine wpAny_call ?_
  k_dflt (refine' code_p ?k1 ?k2 ?k3 ?k4 ?k5 ?kA ?kF ?kK ?k6 ?k7 ?k8 ?k9 ?kB ?_ ?c2 ?c3 ?c4 ?c5; (case kA => exact rfl); (case kF => exact rfl); (case kK => assumption); (case k1 => k_asm); (case k2 => k_asm); (case k3 => k_asm); (case k4 => k_asm); (case k5 => k_asm); (case k6 => k_is); (case k7 => k_is); (case k8 => first | exact Nat.lt_of_le_of_lt (Nat.le_add_right _ _) (by assumption) | ktr_room); (case k9 => first | exact BindsTo.of_eq rfl | exact binds_K (by k_in) rfl (by k_is) rfl rfl rfl); (case c5 => decide); (case kB => exact locs rfl); (case c2 => exact rfl); (case c3 => exact rfl); (case c4 => exact rfl); k_whole; intro g' L' h' FG' F' N' B' X' T'; (try dsimp only); (try k_lift B'); (try k_fold))
  k_steps
  all_goals (refine hret _ [] _ _ ⟨rfl, _, congrArg (Value.int · _) ?_⟩ (by k_asm) ((by assumption : ∀ tl, News _ _ _ tl → News _ _ _ (tl ++ _)) [] News.nil) (fun _ h => nomatch h))
  all_goals rfl
theorem ln_L4_6 : True := by
  (k_with "call ref" => (k_here; k_dflt (refine' con_int (c_sw_nextc _ _ _ _ _ _) ?k1Zq ?k2Zq ?k3Zq ?k4Zq ?k5Zq ?kKZq ?kdZq ?kuZq ?_; (case k1Zq => k_asm); (case k2Zq => k_asm); (case k3Zq => k_asm); (case k4Zq => k_asm); (case k5Zq => k_asm); (case kKZq => first | exact rfl | assumption); (case kdZq => first | exact room_of (by assumption) (by rfl) | ktr_room); (case kuZq => first | exact units_of (by assumption) (by rfl) | ktr_units)); intro t9 h9 tk9 F9 N9; (try dsimp only); (try k_fold); walk_say "USE c_sw_nextc"))
  trivial
set_option maxHeartbeats 0 in
theorem c_nextc (w j : Int) (tw tj : Tok)  : Con 12 85 [.int w tw, .int j tj] (PI (wb w (j + 6))) := by
  unfold Con
  k_fill
  w_on
  intros; rename_i hret
  refine wpAny_call ?_
  k_dflt (refine' code_p ?k1 ?k2 ?k3 ?k4 ?k5 ?kA ?kF ?kK ?k6 ?k7 ?k8 ?k9 ?kB ?_ ?c2 ?c3 ?c4 ?c5; (case kA => exact rfl); (case kF => exact rfl); (case kK => assumption); (case k1 => k_asm); (case k2 => k_asm); (case k3 => k_asm); (case k4 => k_asm); (case k5 => k_asm); (case k6 => k_is); (case k7 => k_is); (case k8 => first | exact Nat.lt_of_le_of_lt (Nat.le_add_right _ _) (by assumption) | ktr_room); (case k9 => first | exact BindsTo.of_eq rfl | exact binds_K (by k_in) rfl (by k_is) rfl rfl rfl); (case c5 => decide); (case kB => exact locs rfl); (case c2 => exact rfl); (case c3 => exact rfl); (case c4 => exact rfl); k_whole; intro g' L' h' FG' F' N' B' X' T'; (try dsimp only); (try k_lift B'); (try k_fold))
  k_steps
  all_goals (refine hret _ [] _ _ ⟨rfl, _, congrArg (Value.int · _) ?_⟩ (by k_asm) ((by assumption : ∀ tl, News _ _ _ tl → News _ _ _ (tl ++ _)) [] News.nil) (fun _ h => nomatch h))
  all_goals rfl
set_option maxHeartbeats 0 in
theorem c_sw_prev (w j : Int) (tw tj : Tok) (ta tb : Tok)  : Con 8 64 [.int w tw, .int j tj, .int (-1) ta, .int 1 tb] (PI (wb w (j + -1))) := by
  unfold Con
  k_fill
  w_on
  intros; rename_i hret
  refine wpAny_call ?_
  k_dflt (refine' code_p ?k1 ?k2 ?k3 ?k4 ?k5 ?kA ?kF ?kK ?k6 ?k7 ?k8 ?k9 ?kB ?_ ?c2 ?c3 ?c4 ?c5; (case kA => exact rfl); (case kF => exact rfl); (case kK => assumption); (case k1 => k_asm); (case k2 => k_asm); (case k3 => k_asm); (case k4 => k_asm); (case k5 => k_asm); (case k6 => k_is); (case k7 => k_is); (case k8 => first | exact Nat.lt_of_le_of_lt (Nat.le_add_right _ _) (by assumption) | ktr_room); (case k9 => first | exact BindsTo.of_eq rfl | exact binds_K (by k_in) rfl (by k_is) rfl rfl rfl); (case c5 => decide); (case kB => exact locs rfl); (case c2 => exact rfl); (case c3 => exact rfl); (case c4 => exact rfl); k_whole; intro g' L' h' FG' F' N' B' X' T'; (try dsimp only); (try k_lift B'); (try k_fold))
  k_steps
  all_goals (refine hret _ [] _ _ ⟨rfl, _, congrArg (Value.int · _) ?_⟩ (by k_asm) ((by assumption : ∀ tl, News _ _ _ tl → News _ _ _ (tl ++ _)) [] News.nil) (fun _ h => nomatch h))
  all_goals rfl
theorem ln_L4_7 : True := by
  (k_with "call ref" => (k_here; k_dflt (refine' con_int (c_sw_prev _ _ _ _ _ _) ?k1Zq ?k2Zq ?k3Zq ?k4Zq ?k5Zq ?kKZq ?kdZq ?kuZq ?_; (case k1Zq => k_asm); (case k2Zq => k_asm); (case k3Zq => k_asm); (case k4Zq => k_asm); (case k5Zq => k_asm); (case kKZq => first | exact rfl | assumption); (case kdZq => first | exact room_of (by assumption) (by rfl) | ktr_room); (case kuZq => first | exact units_of (by assumption) (by rfl) | ktr_units)); intro t9 h9 tk9 F9 N9; (try dsimp only); (try k_fold); walk_say "USE c_sw_prev"))
  trivial
set_option maxHeartbeats 0 in
theorem c_prev (w j : Int) (tw tj : Tok)  : Con 12 92 [.int w tw, .int j tj] (PI (wb w (j + -1))) := by
  unfold Con
  k_fill
  w_on
  intros; rename_i hret
  refine wpAny_call ?_
  k_dflt (refine' code_p ?k1 ?k2 ?k3 ?k4 ?k5 ?kA ?kF ?kK ?k6 ?k7 ?k8 ?k9 ?kB ?_ ?c2 ?c3 ?c4 ?c5; (case kA => exact rfl); (case kF => exact rfl); (case kK => assumption); (case k1 => k_asm); (case k2 => k_asm); (case k3 => k_asm); (case k4 => k_asm); (case k5 => k_asm); (case k6 => k_is); (case k7 => k_is); (case k8 => first | exact Nat.lt_of_le_of_lt (Nat.le_add_right _ _) (by assumption) | ktr_room); (case k9 => first | exact BindsTo.of_eq rfl | exact binds_K (by k_in) rfl (by k_is) rfl rfl rfl); (case c5 => decide); (case kB => exact locs rfl); (case c2 => exact rfl); (case c3 => exact rfl); (case c4 => exact rfl); k_whole; intro g' L' h' FG' F' N' B' X' T'; (try dsimp only); (try k_lift B'); (try k_fold))
  k_steps
  all_goals (refine hret _ [] _ _ ⟨rfl, _, congrArg (Value.int · _) ?_⟩ (by k_asm) ((by assumption : ∀ tl, News _ _ _ tl → News _ _ _ (tl ++ _)) [] News.nil) (fun _ h => nomatch h))
  all_goals rfl
theorem ln_L4_8 : True := by
  (k_with "call ref" => (k_here; k_dflt (refine' con_int (c_prev _ _ _ _) ?k1Zq ?k2Zq ?k3Zq ?k4Zq ?k5Zq ?kKZq ?kdZq ?kuZq ?_; (case k1Zq => k_asm); (case k2Zq => k_asm); (case k3Zq => k_asm); (case k4Zq => k_asm); (case k5Zq => k_asm); (case kKZq => first | exact rfl | assumption); (case kdZq => first | exact room_of (by assumption) (by rfl) | ktr_room); (case kuZq => first | exact units_of (by assumption) (by rfl) | ktr_units)); intro t9 h9 tk9 F9 N9; (try dsimp only); (try k_fold); walk_say "USE c_prev"))
  trivial
set_option maxHeartbeats 0 in
theorem c_sw_prevc (w j : Int) (tw tj : Tok) (ta tb : Tok)  : Con 8 64 [.int w tw, .int j tj, .int 1 ta, .int 0 tb] (PI (wb w j)) := by
  unfold Con
  k_fill
  w_on
  intros; rename_i hret
  refine wpAny_call ?_
  k_dflt (refine' code_p ?k1 ?k2 ?k3 ?k4 ?k5 ?kA ?kF ?kK ?k6 ?k7 ?k8 ?k9 ?kB ?_ ?c2 ?c3 ?c4 ?c5; (case kA => exact rfl); (case kF => exact rfl); (case kK => assumption); (case k1 => k_asm); (case k2 => k_asm); (case k3 => k_asm); (case k4 => k_asm); (case k5 => k_asm); (case k6 => k_is); (case k7 => k_is); (case k8 => first | exact Nat.lt_of_le_of_lt (Nat.le_add_right _ _) (by assumption) | ktr_room); (case k9 => first | exact BindsTo.of_eq rfl | exact binds_K (by k_in) rfl (by k_is) rfl rfl rfl); (case c5 => decide); (case kB => exact locs rfl); (case c2 => exact rfl); (case c3 => exact rfl); (case c4 => exact rfl); k_whole; intro g' L' h' FG' F' N' B' X' T'; (try dsimp only); (try k_lift B'); (try k_fold))
  k_steps
  all_goals (refine hret _ [] _ _ ⟨rfl, _, congrArg (Value.int · _) ?_⟩ (by k_asm) ((by assumption : ∀ tl, News _ _ _ tl → News _ _ _ (tl ++ _)) [] News.nil) (fun _ h => nomatch h))
  all_goals (exact (congrArg (wb w) (Int.add_zero j)))
theorem ln_L4_9 : True := by
  (k_with "call ref" => (k_here; k_dflt (refine' con_int (c_sw_prevc _ _ _ _ _ _) ?k1Zq ?k2Zq ?k3Zq ?k4Zq ?k5Zq ?kKZq ?kdZq ?kuZq ?_; (case k1Zq => k_asm); (case k2Zq => k_asm); (case k3Zq => k_asm); (case k4Zq => k_asm); (case k5Zq => k_asm); (case kKZq => first | exact rfl | assumption); (case kdZq => first | exact room_of (by assumption) (by rfl) | ktr_room); (case kuZq => first | exact units_of (by assumption) (by rfl) | ktr_units)); intro t9 h9 tk9 F9 N9; (try dsimp only); (try k_fold); walk_say "USE c_sw_prevc"))
  trivial
set_option maxHeartbeats 0 in
theorem c_prevc (w j : Int) (tw tj : Tok)  : Con 12 99 [.int w tw, .int j tj] (PI (wb w j)) := by
  unfold Con
  k_fill
  w_on
  intros; rename_i hret
  refine wpAny_call ?_
  k_dflt (refine' code_p ?k1 ?k2 ?k3 ?k4 ?k5 ?kA ?kF ?kK ?k6 ?k7 ?k8 ?k9 ?kB ?_ ?c2 ?c3 ?c4 ?c5; (case kA => exact rfl); (case kF => exact rfl); (case kK => assumption); (case k1 => k_asm); (case k2 => k_asm); (case k3 => k_asm); (case k4 => k_asm); (case k5 => k_asm); (case k6 => k_is); (case k7 => k_is); (case k8 => first | exact Nat.lt_of_le_of_lt (Nat.le_add_right _ _) (by assumption) | ktr_room); (case k9 => first | exact BindsTo.of_eq rfl | exact binds_K (by k_in) rfl (by k_is) rfl rfl rfl); (case c5 => decide); (case kB => exact locs rfl); (case c2 => exact rfl); (case c3 => exact rfl); (case c4 => exact rfl); k_whole; intro g' L' h' FG' F' N' B' X' T'; (try dsimp only); (try k_lift B'); (try k_fold))
  k_steps
  all_goals (refine hret _ [] _ _ ⟨rfl, _, congrArg (Value.int · _) ?_⟩ (by k_asm) ((by assumption : ∀ tl, News _ _ _ tl → News _ _ _ (tl ++ _)) [] News.nil) (fun _ h => nomatch h))
  all_goals rfl
set_option maxHeartbeats 0 in
theorem c_nwk (w j k : Int) (tw tj tk : Tok)  : Con 14 106 [.int w tw, .int j tj, .int k tk] (PI (nwk w j k)) := by
  unfold Con
  k_fill
  w_on
  intros; rename_i hret
  refine wpAny_call ?_
  k_dflt (refine' code_p ?k1 ?k2 ?k3 ?k4 ?k5 ?kA ?kF ?kK ?k6 ?k7 ?k8 ?k9 ?kB ?_ ?c2 ?c3 ?c4 ?c5; (case kA => exact rfl); (case kF => exact rfl); (case kK => assumption); (case k1 => k_asm); (case k2 => k_asm); (case k3 => k_asm); (case k4 => k_asm); (case k5 => k_asm); (case k6 => k_is); (case k7 => k_is); (case k8 => first | exact Nat.lt_of_le_of_lt (Nat.le_add_right _ _) (by assumption) | ktr_room); (case k9 => first | exact BindsTo.of_eq rfl | exact binds_K (by k_in) rfl (by k_is) rfl rfl rfl); (case c5 => decide); (case kB => exact locs rfl); (case c2 => exact rfl); (case c3 => exact rfl); (case c4 => exact rfl); k_whole; intro g' L' h' FG' F' N' B' X' T'; (try dsimp only); (try k_lift B'); (try k_fold))
  k_steps
  all_goals (refine hret _ [] _ _ ⟨rfl, _, congrArg (Value.int · _) ?_⟩ (by k_asm) ((by assumption : ∀ tl, News _ _ _ tl → News _ _ _ (tl ++ _)) [] News.nil) (fun _ h => nomatch h))
  all_goals (first | exact (if_pos (by assumption)).symm | exact (if_neg (by assumption)).symm)
-- part PS
theorem nwk_a {w j k : Int} (h : 0 < k) : (nwk w j k == 7 * k + wb w (j + -1)) = true := by unfold nwk; rw [if_pos h]; exact beq_self_eq_true _
theorem nwk_b {w j k : Int} (h : ¬ 0 < k) : (nwk w j k == 7 * k + wb w (j + 7)) = true := by unfold nwk; rw [if_neg h]; exact beq_self_eq_true _
theorem one_of7 : ∀ r : Fin 7, (List.range 7).filter (fun i : Nat => (i : Int) == (r.1 : Int)) = [r.1] := by decide
theorem sel7 {a r : Int} {p : Int → Bool} {g : Int → Int} (h0 : 0 ≤ r) (h7 : r < 7) (hp : ∀ i : Nat, i < 7 → p (a + (i : Int)) = ((i : Int) == r)) : ((rangeKs a 7).filter p).map g = [g (a + r)] := by
  unfold rangeKs
  rw [List.filter_map, List.map_map]
  have e : (List.range 7).filter (p ∘ fun i : Nat => a + (i : Int)) = [r.toNat] := by
    rw [← one_of7 ⟨r.toNat, by omega⟩]
    apply List.filter_congr
    intro i hi
    show p (a + (i : Int)) = _
    rw [hp i (List.mem_range.mp hi)]
    show ((i : Int) == r) = ((i : Int) == ((r.toNat : Nat) : Int))
    rw [show ((r.toNat : Nat) : Int) = r by omega]
  rw [e, List.map_cons, List.map_nil]
  show [g (a + ((r.toNat : Nat) : Int))] = _
  rw [show ((r.toNat : Nat) : Int) = r by omega]
theorem sel_sub {a j w : Int} (hw : 0 ≤ w ∧ w ≤ 6) : ((rangeKs a 7).filter fun k => Int.fmod (j - k) 7 == w).map (fun k => j - k) = [j - (a + (j - a - w) % 7)] := by
  refine sel7 (r := (j - a - w) % 7) (g := fun k => j - k) (by omega) (by omega) fun i hi => ?_
  rw [Bool.eq_iff_iff]
  simp only [beq_iff_eq, Int.fmod_eq_emod_of_nonneg _ (show (0 : Int) ≤ 7 by decide)]
  omega
theorem sel_add {a j w : Int} (hw : 0 ≤ w ∧ w ≤ 6) : ((rangeKs a 7).filter fun k => Int.fmod (j + k) 7 == w).map (fun k => j + k) = [j + (a + (w - j - a) % 7)] := by
  refine sel7 (r := (w - j - a) % 7) (g := fun k => j + k) (by omega) (by omega) fun i hi => ?_
  rw [Bool.eq_iff_iff]
  simp only [beq_iff_eq, Int.fmod_eq_emod_of_nonneg _ (show (0 : Int) ≤ 7 by decide)]
  omega
theorem ints_back {us : List Value} {n : Nat} {a w j : Int} (hw : 0 ≤ w ∧ w ≤ 6) (hn : n = 7) (ha : a = 0) (h : IntsAre us ([] ++ ((rangeKs (a + ((0 : Nat) : Int)) n).filter fun k => Int.fmod (j - k) 7 == w).map (fun k => j - k))) : IntsAre us [wb w j] := by
  subst hn; subst ha
  rw [List.nil_append, show (0 : Int) + ((0 : Nat) : Int) = 0 by decide, sel_sub hw] at h
  rw [wb_emod, show j - (j - w) % 7 = j - (0 + (j - 0 - w) % 7) by omega]
  exact h
theorem ints_before {us : List Value} {n : Nat} {a w j : Int} (hw : 0 ≤ w ∧ w ≤ 6) (hn : n = 7) (ha : a = 1) (h : IntsAre us ([] ++ ((rangeKs (a + ((0 : Nat) : Int)) n).filter fun k => Int.fmod (j - k) 7 == w).map (fun k => j - k))) : IntsAre us [wb w (j + -1)] := by
  subst hn; subst ha
  rw [List.nil_append, show (1 : Int) + ((0 : Nat) : Int) = 1 by decide, sel_sub hw] at h
  rw [wb_emod, show j + -1 - (j + -1 - w) % 7 = j - (1 + (j - 1 - w) % 7) by omega]
  exact h
theorem ints_on {us : List Value} {n : Nat} {a w j : Int} (hw : 0 ≤ w ∧ w ≤ 6) (hn : n = 7) (ha : a = 0) (h : IntsAre us ([] ++ ((rangeKs (a + ((0 : Nat) : Int)) n).filter fun k => Int.fmod (j + k) 7 == w).map (fun k => j + k))) : IntsAre us [wb w (j + 6)] := by
  subst hn; subst ha
  rw [List.nil_append, show (0 : Int) + ((0 : Nat) : Int) = 0 by decide, sel_add hw] at h
  rw [wb_emod, show j + 6 - (j + 6 - w) % 7 = j + (0 + (w - j - 0) % 7) by omega]
  exact h
theorem ints_behind {us : List Value} {n : Nat} {a w j : Int} (hw : 0 ≤ w ∧ w ≤ 6) (hn : n = 7) (ha : a = 1) (h : IntsAre us ([] ++ ((rangeKs (a + ((0 : Nat) : Int)) n).filter fun k => Int.fmod (j + k) 7 == w).map (fun k => j + k))) : IntsAre us [wb w (j + 7)] := by
  subst hn; subst ha
  rw [List.nil_append, show (1 : Int) + ((0 : Nat) : Int) = 1 by decide, sel_add hw] at h
  rw [wb_emod, show j + 7 - (j + 7 - w) % 7 = j + (1 + (w - j - 1) % 7) by omega]
  exact h
theorem ints_near {us : List Value} {n : Nat} {a w j : Int} (hw : 0 ≤ w ∧ w ≤ 6) (hn : n = 7) (ha : a = -3) (h : IntsAre us ([] ++ ((rangeKs (a + ((0 : Nat) : Int)) n).filter fun k => Int.fmod (j + k) 7 == w).map (fun k => j + k))) : IntsAre us [wb w (j + 3)] := by
  subst hn; subst ha
  rw [List.nil_append, show (-3 : Int) + ((0 : Nat) : Int) = -3 by decide, sel_add hw] at h
  rw [wb_emod, show j + 3 - (j + 3 - w) % 7 = j + (-3 + (w - j - -3) % 7) by omega]
  exact h
-- part NR
theorem k_nth (n w m y : Int) (tn tw tm ty : Tok) (h0 : 1 ≤ m ∧ m ≤ 12) (h1 : -1 ≤ n ∧ n ≤ 6) (h2 : ¬ ((0 ≤ w ∧ w ≤ 6) ∧ 0 ≤ n ∧ n ≤ 5 ∧ (n = 0 ∨ fkN y m w + (n - 1) * 7 ≤ mrL y m))) : ConK 16 425 [.int n tn, .int w tw, .int m tm, .int y ty] KS := by
  by_cases ha : n < 0
  · obtain rfl : n = -1 := by omega
    exact k_nth_b2 w m y tw tm ty tn h0
  · by_cases hb : 5 < n
    · obtain rfl : n = 6 := by omega
      exact k_nth_b4 w m y tw tm ty tn h0
    · have hn : 0 ≤ n ∧ n ≤ 5 := ⟨by omega, by omega⟩
      by_cases hw : 0 ≤ w ∧ w ≤ 6
      · have hq : ¬ (n = 0 ∨ fkN y m w + (n - 1) * 7 ≤ mrL y m) := fun q => h2 ⟨hw, hn.1, hn.2, q⟩
        have hd : ¬ fkN y m w + (n - 1) * 7 ≤ mrL y m := fun q => hq (.inr q)
        have hf := fkN_b y m w
        have hl := mrL_bN y h0
        obtain rfl : n = 5 := by omega
        exact k_nth_b1 w m y tw tm ty tn h0 hw (by omega)
      · exact k_nth_b3 n w m y tn tw tm ty h0 hn (by omega)
def StayR (h₀ : Heap) (L : Addr) (m : Str → Option Value) (news : List (Addr × Obj)) (s : Shared) : Flow → Shared → Prop := fun fl s' => ∃ h' tk', fl = .next ∧ s' = { s with heap := h', toks := tk' } ∧ Fr h₀ L h' m ∧ News h₀ L h' news
/-- a statement all of whose ways leave the frame and the ledger as they were -/
theorem cutStay {M : Model} {A : Around} {tree : Sem Flow} {Q : Flow → Shared → Prop} {E : Value → Shared → Prop} {s : Shared} {h₀ : Heap} {L : Addr} {m : Str → Option Value} {news : List (Addr × Obj)} (_ : Fr h₀ L s.heap m) (_ : News h₀ L s.heap news)
    (h1 : wpAny M A tree (StayR h₀ L m news s) E s) (h2 : ∀ h' tk', Fr h₀ L h' m → News h₀ L h' news → Q .next { s with heap := h', toks := tk' }) : wpAny M A tree Q E s :=
  wpAny_mono h1 (fun v s' ⟨h', tk', e1, e2, F, N⟩ => by subst e1; subst e2; exact h2 h' tk' F N) fun _ _ e => e
theorem stayR_end {h₀ h' : Heap} {L : Addr} {m : Str → Option Value} {news : List (Addr × Obj)} {s : Shared} {tk : Nat} (F : Fr h₀ L h' m) (N : News h₀ L h' news) : StayR h₀ L m news s .next { s with heap := h', toks := tk } := ⟨h', tk, rfl, rfl, F, N⟩
theorem nrB {n w m y : Int} (h0 : 1 ≤ m ∧ m ≤ 12) (h1 : -1 ≤ n ∧ n ≤ 6) (hB : ¬ ((0 ≤ w ∧ w ≤ 6) ∧ 0 ≤ n ∧ n ≤ 5 ∧ (n = 0 ∨ fkN y m w + (n - 1) * 7 ≤ mrL y m))) (hw : 0 ≤ w ∧ w ≤ 6) : n ≠ 0 ∧ (n < 1 ∨ (cntN y m w : Int) < n) := by
  refine ⟨fun e => hB ⟨hw, by omega, by omega, .inl e⟩, ?_⟩
  by_cases ha : n < 1
  · exact .inl ha
  · refine .inr ?_
    by_cases hb : 5 < n
    · have := cntN_v y m w
      omega
    · have hd : ¬ fkN y m w + (n - 1) * 7 ≤ mrL y m := fun q => hB ⟨hw, by omega, by omega, .inr q⟩
      have := cntN_v y m w
      have := fkN_b y m w
      have := mrL_bN y h0
      omega
theorem nrA {y m : Int} (w : Int) (h0 : 1 ≤ m ∧ m ≤ 12) : 1 ≤ cntN y m w ∧ lastN y m w = fkN y m w + 7 * ((cntN y m w : Int) - 1) := by
  have := cntN_v y m w
  have := lastN_v y m w
  have := fkN_b y m w
  have := mrL_bN y h0
  omega
theorem nrC {n w m y : Int} (hn : 1 ≤ n ∧ n ≤ 5) (hd : fkN y m w + (n - 1) * 7 ≤ mrL y m) : n ≤ (cntN y m w : Int) := by
  have := cntN_v y m w
  omega
theorem ln_NR_1 : True := by
  k_with_none
  (k_with "execs cons" => (k_here; (try dsimp only); k_gentoks))
  (k_with "execs nil" => (k_here; (try dsimp only); k_gentoks))
  (k_with "call ref" => (k_here; k_dflt (refine' con_bool (c_lawlong _ _) ?k1Zq ?k2Zq ?k3Zq ?k4Zq ?k5Zq ?kKZq ?kdZq ?kuZq ?_; (case k1Zq => k_asm); (case k2Zq => k_asm); (case k3Zq => k_asm); (case k4Zq => k_asm); (case k5Zq => k_asm); (case kKZq => first | exact rfl | assumption); (case kdZq => first | exact room_of (by assumption) (by rfl) | ktr_room); (case kuZq => first | exact units_of (by assumption) (by rfl) | ktr_units)); intro h9 tk9 F9 N9; (try dsimp only); (try k_fold); walk_say "USE c_lawlong"))
  (k_with "call ref" => (k_here; k_dflt (refine' con_tup (c_mr _ _ _ _ ?p0Zq) ?k1Zq ?k2Zq ?k3Zq ?k4Zq ?k5Zq ?kKZq ?kdZq ?kuZq ?_; (case p0Zq => first | assumption | omega); (case k1Zq => k_asm); (case k2Zq => k_asm); (case k3Zq => k_asm); (case k4Zq => k_asm); (case k5Zq => k_asm); (case kKZq => first | exact rfl | assumption); (case kdZq => first | exact room_of (by assumption) (by rfl) | ktr_room); (case kuZq => first | exact units_of (by assumption) (by rfl) | ktr_units)); intro D9 t9 u9 n9 h9 tk9 F9 N9 l9; (try dsimp only); (try k_fold); walk_say "USE c_mr"))
  (k_with "call ref" => (k_here; k_dflt (refine' con_int (c_jan _ _) ?k1Zq ?k2Zq ?k3Zq ?k4Zq ?k5Zq ?kKZq ?kdZq ?kuZq ?_; (case k1Zq => k_asm); (case k2Zq => k_asm); (case k3Zq => k_asm); (case k4Zq => k_asm); (case k5Zq => k_asm); (case kKZq => first | exact rfl | assumption); (case kdZq => first | exact room_of (by assumption) (by rfl) | ktr_room); (case kuZq => first | exact units_of (by assumption) (by rfl) | ktr_units)); intro t9 h9 tk9 F9 N9; (try dsimp only); (try k_fold); walk_say "USE c_jan"))
  (k_with "call ref" => (k_here; k_dflt (refine' con_list (c_sizes _) ?k1Zq ?k2Zq ?k3Zq ?k4Zq ?k5Zq ?kKZq ?kdZq ?kuZq ?_; (case k1Zq => k_asm); (case k2Zq => k_asm); (case k3Zq => k_asm); (case k4Zq => k_asm); (case k5Zq => k_asm); (case kKZq => first | exact rfl | assumption); (case kdZq => first | exact room_of (by assumption) (by rfl) | ktr_room); (case kuZq => first | exact units_of (by assumption) (by rfl) | ktr_units)); intro D9 us9 n9 h9 tk9 I9 F9 N9 l9; (try dsimp only); (try k_fold); walk_say "USE c_sizes"))
  (k_with "subscriptTail" => (k_here; (with_reducible show wpAny _ _ (subscriptTail _ _ (Value.ref _) (Value.int _ _)) _ _ _); k_dflt (refine' item_made ?NZq ?mZq ?iZq ?aZq ?bZq ?lZq ?_ ?sZq; (case NZq => k_asm); (case mZq => k_mem); (case iZq => first | assumption | repeat constructor); (case aZq => omega); (case bZq => (simp only [szL, List.length_cons, List.length_nil]; omega)); (case lZq => exact Nat.le_of_ble_eq_true rfl); (case sZq => with_unfolding_all rfl); k_whole; intro t9); walk_say "ITEM"))
  (k_with "subscriptTail" => (k_here; (with_reducible show wpAny _ _ (subscriptTail _ (Expr.Slice _ _ _ _) (Value.ref _) (Value.ref _)) _ _ _); k_dflt (refine' slice_made_upto2 ?FZq ?NZq ?mZq ?iZq ?aZq ?bZq ?lZq ?_ ?sZq; (case FZq => k_asm); (case NZq => k_asm); (case mZq => k_mem); (case iZq => assumption); (case aZq => omega); (case bZq => (simp only [szL, List.length_cons, List.length_nil]; omega)); (case lZq => exact Nat.le_of_ble_eq_true rfl); (case sZq => with_unfolding_all rfl); k_whole; intro D ws h' F' N' l1 i1; (try k_lt l1)); walk_say "SLICE"))
  (k_with "eval ListComp" => (k_here; k_dflt (refine LCt.ListComp_T (F₀ := by k_asm) (by with_unfolding_all rfl) (by decide) (by rfl) (by decide) (by rfl) ?_); walk_say "COMP"))
  (k_with "CompSrcT" => (k_here; k_dflt (refine LCt.CompSrcT.range (by rfl) (by k_asm) (by k_asm) (by assumption) (by exact small_one (by omega) (by omega) (by omega) (by omega)) (by exact rangeSize_nat _ _) (by first | exact Nat.le_of_ble_eq_true rfl | (rw [PySem.sizeLine_eq]; omega)) ?_; intro g'; refine rest_nth (by rfl) (by rfl) (by k_mem) (by k_asm) (by k_mem) (by k_asm) (fun _ => by rfl) (fun _ => by rfl) (fun _ => by rfl) (fun _ => by rfl) trivial (fun us hi9 => ?_); (first | (have hi8 := days_ok (by assumption) (by assumption) (by assumption) (by omega) hi9; clear hi9) | skip)); walk_say "COMP TESTED"))
  (k_with "call builtin:len" => (k_here; k_dflt (refine' kst_len ?NZq ?mZq ?eZq ?zZq ?_; (case NZq => k_asm); (case mZq => k_mem); (case eZq => exact (IntsAre.length (by assumption)).trans (dN_len _ _)); (case zZq => exact cnt_small _ _ _); k_whole); walk_say "LEN"))
  (k_with "subscriptTail" => (k_here; (with_reducible show wpAny _ _ (subscriptTail _ (Expr.BinOp _ _ _ _) (Value.ref _) (Value.int _ _)) _ _ _); k_dflt (refine' item_dn ?NZq ?mZq ?iZq ?aZq ?bZq ?lZq ?_ ?sZq; (case NZq => k_asm); (case mZq => k_mem); (case iZq => assumption); (case aZq => omega); (case bZq => omega); (case lZq => exact cnt_small _ _ _); (case sZq => with_unfolding_all rfl); k_whole; intro t9); walk_say "ITEM DN"))
  (k_with "subscriptTail" => (k_here; (with_reducible show wpAny _ _ (subscriptTail _ (Expr.UnaryOp _ _ _) (Value.ref _) (Value.int _ _)) _ _ _); k_dflt (refine' item_last ?NZq ?mZq ?iZq ?aZq ?_ ?sZq; (case NZq => k_asm); (case mZq => k_mem); (case iZq => assumption); (case aZq => omega); (case sZq => with_unfolding_all rfl); k_whole; intro t9); walk_say "ITEM LAST"))
  (k_with "call ref" => (k_here; k_dflt (refine' con_tup3 (c_nth_a1 _ _ _ _ _ _ _ ?p0Zq ?p1Zq) ?k1Zq ?k2Zq ?k3Zq ?k4Zq ?k5Zq ?kKZq ?kdZq ?kuZq ?_; (case p0Zq => first | assumption | omega); (case p1Zq => first | assumption | omega); (case k1Zq => k_asm); (case k2Zq => k_asm); (case k3Zq => k_asm); (case k4Zq => k_asm); (case k5Zq => k_asm); (case kKZq => first | exact rfl | assumption); (case kdZq => first | exact room_of (by assumption) (by rfl) | ktr_room); (case kuZq => first | exact units_of (by assumption) (by rfl) | ktr_units)); intro D9 t9 u9 q9 n9 h9 tk9 F9 N9 l9; (try dsimp only); (try k_fold); walk_say "USE c_nth_a1"))
  (k_with "call ref" => (k_here; k_dflt (refine' con_tup3 (c_nth_a2 _ _ _ _ _ _ _ _ ?p0Zq ?p1Zq ?p2Zq ?p3Zq) ?k1Zq ?k2Zq ?k3Zq ?k4Zq ?k5Zq ?kKZq ?kdZq ?kuZq ?_; (case p0Zq => first | assumption | omega); (case p1Zq => first | assumption | omega); (case p2Zq => first | assumption | omega); (case p3Zq => first | assumption | omega); (case k1Zq => k_asm); (case k2Zq => k_asm); (case k3Zq => k_asm); (case k4Zq => k_asm); (case k5Zq => k_asm); (case kKZq => first | exact rfl | assumption); (case kdZq => first | exact room_of (by assumption) (by rfl) | ktr_room); (case kuZq => first | exact units_of (by assumption) (by rfl) | ktr_units)); intro D9 t9 u9 q9 n9 h9 tk9 F9 N9 l9; (try dsimp only); (try k_fold); walk_say "USE c_nth_a2"))
  (k_with "call ref" => (k_here; k_dflt (refine' conK_str (k_nth _ _ _ _ _ _ _ _ ?p0Zq ?p1Zq ?p2Zq) ?k1Zq ?k2Zq ?k3Zq ?k4Zq ?k5Zq ?kXBZq ?kTBZq ?kDZq ?kKZq ?kdZq ?kuZq ?_; (case p0Zq => first | assumption | omega); (case p1Zq => first | assumption | omega); (case p2Zq => first | assumption | omega); (case k1Zq => k_asm); (case k2Zq => k_asm); (case k3Zq => k_asm); (case k4Zq => k_asm); (case k5Zq => k_asm); (case kXBZq => assumption); (case kTBZq => assumption); (case kDZq => assumption); (case kKZq => first | exact rfl | assumption); (case kdZq => first | exact room_of (by assumption) (by rfl) | ktr_room); (case kuZq => first | exact units_of (by assumption) (by rfl) | ktr_units)); intro t9 h0' h9 tk9 K9 F9 N9 B9 X9 T9 D9; (try dsimp only); (try k_fold); walk_say "USE k_nth"))
  (k_with "exec If" => (k_here; (fail_if_success (fail_if_success (have mk9 : GoMark := by with_reducible assumption))); (with_reducible show wpAny _ _ (exec (Stmt.If (Expr.BoolOp _ _ _) _ _ _) _) _ _ _); refine stop_here ?_))
  trivial
set_option maxHeartbeats 0 in
theorem c_nr (n w m y : Int) (tn tw tm ty : Tok) (h0 : 1 ≤ m ∧ m ≤ 12) (h1 : -1 ≤ n ∧ n ≤ 6) (h2 : -1 ≤ w ∧ w ≤ 7) : ConK 32 430 [.int n tn, .int w tw, .int m tm, .int y ty] (KB true) := by
  have hmk := goMark
  have hF := mrF_first (y := y) h0
  have hS := sizeG (y := y) h0
  have hml := mrL_bN y h0
  have hb := getD_b (b := leapG y) (i := (m - 1).toNat) (by omega)
  unfold ConK
  k_fill
  w_on
  intros; rename_i hret
  refine wpAny_call ?_
  k_dflt (refine' code_kC ?k1 ?k2 ?k3 ?k4 ?k5 ?XB ?TB ?DD ?kA ?kF ?kK ?k6 ?k7 ?k8 ?k9 ?kB ?kD ?_ ?c2 ?c3 ?c4; (case kA => exact rfl); (case kF => exact rfl); (case kK => assumption); (case k1 => k_asm); (case k2 => k_asm); (case k3 => k_asm); (case k4 => k_asm); (case k5 => k_asm); (case XB => assumption); (case TB => assumption); (case DD => assumption); (case k6 => k_is); (case k7 => k_is); (case k8 => first | exact Nat.lt_of_le_of_lt (Nat.le_add_right _ _) (by assumption) | ktr_room); (case k9 => first | exact BindsTo.of_eq rfl | exact binds_K (by k_in) rfl (by k_is) rfl rfl rfl); (case kB => exact rfl); (case kD => decide +kernel); (case c2 => exact rfl); (case c3 => exact rfl); (case c4 => exact rfl); k_whole; intro g' L' h' tk' cells' F' N' Y' B' X' T' D'; k_cells Y'; (try simp only [List.cons_append, List.nil_append] at N'); (try dsimp only); (try k_lift B'); (try k_fold))
  k_steps
  unfold StopHere
  clear hmk
  by_cases hB : ¬ ((0 ≤ w ∧ w ≤ 6) ∧ 0 ≤ n ∧ n ≤ 5 ∧ (n = 0 ∨ fkN y m w + (n - 1) * 7 ≤ mrL y m))
  · k_dflt (refine' cutStay ?lcF ?lcN ?one ?two; (case lcF => k_asm); (case lcN => k_asm))
    case one =>
      by_cases hw : 0 ≤ w ∧ w ≤ 6
      · have hi8 := days_ok h0 hw (by assumption) (by omega) hi9
        obtain ⟨hn0, hq⟩ := nrB h0 h1 hB hw
        clear hi9 hB hml hb
        k_steps
        all_goals first | (k_dflt (refine stayR_end (by k_asm) (by k_asm))) | (exfalso; law_clear; omega)
      · have hw' : w < 0 ∨ 6 < w := by omega
        clear hB hw hml hb hS hi9
        k_steps
        all_goals first | (k_dflt (refine stayR_end (by k_asm) (by k_asm))) | (exfalso; law_clear; omega)
    case two =>
      intro hY tkY FY NY
      (try k_fold)
      k_steps
      all_goals first | (k_dflt (refine' leaveT ?lvT ?lvF ?lvR; (case lvT => first | assumption | exact KtsTurn.refl); (case lvF => k_asm); (case lvR => intro h₁ b0 b1 b2 b3 b4 b5 b6; exact hret _ h₁ _ _ (congrArg Value.bool (nr_end (by assumption) (by assumption))) b0 b1 b2 b3 b4 b5 b6))) | (exfalso; law_clear; omega)
  · obtain ⟨hw, hn1, hn2, hd1⟩ := Classical.not_not.mp hB
    have hi8 := days_ok h0 hw (by assumption) (by omega) hi9
    by_cases hn : n = 0
    · subst hn
      obtain ⟨hc1, he1⟩ := nrA (y := y) w h0
      clear hi9 hB hml hb hd1 hn1 hn2
      k_steps
      all_goals first | (k_dflt (refine' leaveT ?lvT ?lvF ?lvR; (case lvT => first | assumption | exact KtsTurn.refl); (case lvF => k_asm); (case lvR => intro h₁ b0 b1 b2 b3 b4 b5 b6; exact hret _ h₁ _ _ (congrArg Value.bool (nr_end (by assumption) (by assumption))) b0 b1 b2 b3 b4 b5 b6))) | (exfalso; law_clear; omega)
    · have hn' : 1 ≤ n ∧ n ≤ 5 := ⟨by omega, hn2⟩
      have hd : fkN y m w + (n - 1) * 7 ≤ mrL y m := hd1.resolve_left hn
      have hc2 := nrC hn' hd
      have hn0 : n ≠ 0 := hn
      clear hi9 hB hn hml hb hd1 hn1 hn2
      k_steps
      all_goals first | (k_dflt (refine' leaveT ?lvT ?lvF ?lvR; (case lvT => first | assumption | exact KtsTurn.refl); (case lvF => k_asm); (case lvR => intro h₁ b0 b1 b2 b3 b4 b5 b6; exact hret _ h₁ _ _ (congrArg Value.bool (nr_end (by assumption) (by assumption))) b0 b1 b2 b3 b4 b5 b6))) | (exfalso; law_clear; omega)
-- part GL
section
variable {prog : Program} {w : World} {A : Around} {E : Value → Shared → Prop} {s : Shared} {env : Env} {h₀ : Heap} {x : Str} {body : List Stmt} {Q : Flow → Shared → Prop}
/-- a loop over a range that turns the ledger's two lists alone; the frame's names but the loop's own stay -/
theorem rng_two {rg r R : Addr} {a₀ b₀ : Int} {t₀ u₀ v₀ : Tok} {n : Nat} {m₀ : Str → Option Value} {o₁ o₂ : Obj} (T : Nat → Obj → Prop)
    (hh : A.handled = none) (hr : IsRange s.heap rg a₀ b₀ 1 t₀ u₀ v₀) (hs : Builtin.Range.small a₀ b₀ 1 = true) (hn : Builtin.Range.rangeSize a₀ b₀ 1 = (n : Int))
    (F : Fr h₀ env.locals s.heap m₀) (N : News h₀ env.locals s.heap [(r, o₁), (R, o₂)]) (h0 : T 0 o₁) (hrR : R ≠ r)
    (turn : ∀ (i : Nat) (t : Tok) (o : Obj) (s₁ : Shared) (own : List (Addr × Obj)) (Q' : Flow → Shared → Prop), i < n → T i o → (∀ p ∈ (R, o₂) :: own, p.1 ≠ r) → Fr h₀ env.locals s₁.heap (fun z => if z = x then some (.int (a₀ + i) t) else m₀ z) → News h₀ env.locals s₁.heap ((r, o) :: (R, o₂) :: own) →
      (∀ (o' : Obj) (h' : Heap) (tk' : Nat), T (i + 1) o' → Fr h₀ env.locals h' (fun z => if z = x then some (.int (a₀ + i) t) else m₀ z) → News h₀ env.locals h' ((r, o') :: (R, o₂) :: own) → Q' .next { s₁ with heap := h', toks := tk' }) →
      wpAny (model prog w) A (execs body env) Q' E s₁)
    (done : ∀ (u : Str → Option Value) (o : Obj) (h : Heap) (tk : Nat), T n o → Fr h₀ env.locals h (fun z => if z = x then u z else m₀ z) → News h₀ env.locals h [(r, o), (R, o₂)] → Q .next { s with heap := h, toks := tk }) :
    wpAny (model prog w) A (pyIter (.ref rg)) (fun it s₂ => LoopAtV prog w A h₀ env x body Q E it s₂) E s := by
  refine tbr_invG (fun i m nx => (∃ o, T i o ∧ nx = [(r, o), (R, o₂)]) ∧ ∀ z, z ≠ x → m z = m₀ z) hh hr hs hn F N ⟨⟨o₁, h0, rfl⟩, fun _ _ => rfl⟩ ?_ ?_
  · rintro i k t m₁ nx h tk own hk hoff ⟨⟨o, hT, rfl⟩, hm⟩ F₁ N₁
    have hi : i < n ∧ k = a₀ + (i : Int) := by
      unfold rangeKs at hk
      rw [List.getElem?_map] at hk
      by_cases h : i < n
      · rw [List.getElem?_range h] at hk; exact ⟨h, (Option.some.inj hk).symm⟩
      · rw [List.getElem?_eq_none (by simpa using h)] at hk; cases hk
    obtain ⟨hi, rfl⟩ := hi
    have e : (fun z => if z = x then some (Value.int (a₀ + (i : Int)) t) else m₁ z) = fun z => if z = x then some (.int (a₀ + i) t) else m₀ z := by
      funext z
      by_cases h1 : z = x
      · rw [if_pos h1, if_pos h1]
      · rw [if_neg h1, if_neg h1, hm z h1]
    rw [e] at F₁
    have ho : OwnOff own [r, R] := by
      intro p hp b hb
      rcases List.mem_cons.mp hb with rfl | hb
      · exact hoff p hp (b, o) (.head _)
      · rw [List.mem_singleton.mp hb]; exact hoff p hp (R, o₂) (.tail _ (.head _))
    have hne : ∀ p ∈ (R, o₂) :: own, p.1 ≠ r := fun p hp => (List.mem_cons.mp hp).elim (fun e => by rw [e]; exact hrR) fun hp => ho p hp r (.head _)
    refine turn i t o _ own _ hi hT hne F₁ N₁ fun o' h' tk' hT' F' N' => ⟨h', tk', _, _, [(r, o'), (R, o₂)], rfl, F', N', ?_, ?_, ?_, ⟨o', hT', rfl⟩, fun z hz => if_neg hz⟩
    · intro p hp
      rcases List.mem_cons.mp hp with rfl | hp
      · exact .head _
      · rw [List.mem_singleton.mp hp]; exact .tail _ (.head _)
    · exact fun p hp => .tail _ (.tail _ hp)
    · intro p hp q hq
      rcases List.mem_cons.mp hq with rfl | hq
      · exact ho p hp r (.head _)
      · rw [List.mem_singleton.mp hq]; exact ho p hp R (.tail _ (.head _))
  · rintro m₁ nx h tk ⟨⟨o, hT, rfl⟩, hm⟩ F₁ N₁
    have e : m₁ = fun z => if z = x then m₁ z else m₀ z := by
      funext z
      by_cases h1 : z = x
      · rw [if_pos h1]
      · rw [if_neg h1, hm z h1]
    rw [e] at F₁
    exact done m₁ o h tk hT F₁ N₁
end
section
variable {prog : Program} {w : World} {A : Around} {E : Value → Shared → Prop} {s : Shared} {h₀ : Heap} {L : Addr} {m : Str → Option Value} {rest : List (Addr × Obj)} {Q : Value → Shared → Prop}
theorem app_one {r : Addr} {xs : List Value} {c : Nat} {v : Value} (F : Fr h₀ L s.heap m) (N : News h₀ L s.heap ((r, listOf xs.toArray c) :: rest)) (hne : ∀ p ∈ rest, p.1 ≠ r) (hz : xs.length ≤ 1000)
    (h : ∀ h', Fr h₀ L h' m → News h₀ L h' ((r, listOf (xs ++ [v]).toArray (c + 1)) :: rest) → Q .none { s with heap := h' }) :
    wpAny (model prog w) A (call (.builtin "list.append") [.ref r, v]) Q E s := by
  refine append_K F N (Upd.head hne) (fun h' F' N' => h h' F' ?_) (by rw [List.size_toArray, sizeLine_eq]; omega)
  rw [List.push_toArray] at N'
  exact N'
end
section
variable {prog : Program} {w : World} {A : Around} {E : Value → Shared → Prop} {s : Shared} {h₀ : Heap} {L : Addr} {m : Str → Option Value} {rest : List (Addr × Obj)} {Q : Value → Shared → Prop}
theorem app_two {r : Addr} {q : Addr × Obj} {xs : List Value} {c : Nat} {v : Value} (F : Fr h₀ L s.heap m) (N : News h₀ L s.heap (q :: (r, listOf xs.toArray c) :: rest)) (hq : q.1 ≠ r) (hne : ∀ p ∈ rest, p.1 ≠ r) (hz : xs.length ≤ 1000)
    (h : ∀ h', Fr h₀ L h' m → News h₀ L h' (q :: (r, listOf (xs ++ [v]).toArray (c + 1)) :: rest) → Q .none { s with heap := h' }) :
    wpAny (model prog w) A (call (.builtin "list.append") [.ref r, v]) Q E s := by
  refine append_K F N (Upd.tail hq (Upd.head hne)) (fun h' F' N' => h h' F' ?_) (by rw [List.size_toArray, sizeLine_eq]; omega)
  rw [List.push_toArray] at N'
  exact N'
end
section
variable {prog : Program} {w : World} {A : Around} {E : Value → Shared → Prop} {s : Shared} {env : Env} {h₀ : Heap} {x y : Str} {body : List Stmt} {Q : Flow → Shared → Prop}
/-- the rows' loop: one list (y's) is filled and made anew, the other takes the full ones, which then stand in tl -/
theorem rng_rows {rg r R : Addr} {a₀ b₀ : Int} {t₀ u₀ v₀ : Tok} {n : Nat} {m₀ : Str → Option Value} {its₀ refs₀ : List Value} {c₀ d₀ : Nat} (G : Nat → List Value → List Value → List (Addr × Obj) → Prop) (hyx : y ≠ x)
    (hh : A.handled = none) (hr : IsRange s.heap rg a₀ b₀ 1 t₀ u₀ v₀) (hs : Builtin.Range.small a₀ b₀ 1 = true) (hn : Builtin.Range.rangeSize a₀ b₀ 1 = (n : Int))
    (F : Fr h₀ env.locals s.heap m₀) (N : News h₀ env.locals s.heap [(r, listOf its₀.toArray c₀), (R, listOf refs₀.toArray d₀)]) (hy : m₀ y = some (.ref r)) (h0 : G 0 its₀ refs₀ []) (hrR : R ≠ r)
    (turn : ∀ (i : Nat) (t : Tok) (r : Addr) (its refs : List Value) (c d : Nat) (tl rest : List (Addr × Obj)) (s₁ : Shared) (Q' : Flow → Shared → Prop), i < n → G i its refs tl → R ≠ r → (∀ p ∈ (R, listOf refs.toArray d) :: rest, p.1 ≠ r) → (∀ p ∈ rest, p.1 ≠ R) →
      Fr h₀ env.locals s₁.heap (fun z => if z = x then some (.int (a₀ + i) t) else if z = y then some (.ref r) else m₀ z) → News h₀ env.locals s₁.heap ((r, listOf its.toArray c) :: (R, listOf refs.toArray d) :: rest) →
      (∀ (its' : List Value) (c' : Nat) (h' : Heap) (tk' : Nat), G (i + 1) its' refs tl → Fr h₀ env.locals h' (fun z => if z = x then some (.int (a₀ + i) t) else if z = y then some (.ref r) else m₀ z) → News h₀ env.locals h' ((r, listOf its'.toArray c') :: (R, listOf refs.toArray d) :: rest) → Q' .next { s₁ with heap := h', toks := tk' }) →
      (∀ (r' : Addr) (its' refs' : List Value) (c' d' : Nat) (h' : Heap) (tk' : Nat), G (i + 1) [] refs' ((r, listOf its'.toArray c') :: tl) → R ≠ r' → r ≠ r' → (∀ p ∈ rest, p.1 ≠ r') →
        Fr h₀ env.locals h' (fun z => if z = y then some (.ref r') else if z = x then some (.int (a₀ + i) t) else if z = y then some (.ref r) else m₀ z) → News h₀ env.locals h' ((r', listOf (List.toArray []) 0) :: (r, listOf its'.toArray c') :: (R, listOf refs'.toArray d') :: rest) → Q' .next { s₁ with heap := h', toks := tk' }) →
      wpAny (model prog w) A (execs body env) Q' E s₁)
    (done : ∀ (u : Str → Option Value) (r : Addr) (its refs : List Value) (c d : Nat) (tl : List (Addr × Obj)) (h : Heap) (tk : Nat), G n its refs tl → R ≠ r → (∀ p ∈ tl, p.1 ≠ r) → (∀ p ∈ tl, p.1 ≠ R) →
      Fr h₀ env.locals h (fun z => if z = x then u z else if z = y then some (.ref r) else m₀ z) → News h₀ env.locals h ((r, listOf its.toArray c) :: (R, listOf refs.toArray d) :: tl) → Q .next { s with heap := h, toks := tk }) :
    wpAny (model prog w) A (pyIter (.ref rg)) (fun it s₂ => LoopAtV prog w A h₀ env x body Q E it s₂) E s := by
  refine tbr_invG (fun i m nx => ∃ (r : Addr) (its refs : List Value) (c d : Nat) (tl : List (Addr × Obj)), nx = (r, listOf its.toArray c) :: (R, listOf refs.toArray d) :: tl ∧ G i its refs tl ∧ R ≠ r ∧ (∀ p ∈ tl, p.1 ≠ r) ∧ (∀ p ∈ tl, p.1 ≠ R) ∧ m y = some (.ref r) ∧ ∀ z, z ≠ x → z ≠ y → m z = m₀ z) hh hr hs hn F N
    ⟨r, its₀, refs₀, c₀, d₀, [], rfl, h0, hrR, fun _ h => (nomatch h), fun _ h => (nomatch h), hy, fun _ _ _ => rfl⟩ ?_ ?_
  · rintro i k t m₁ nx h tk own hk hoff ⟨r, its, refs, c, d, tl, rfl, hG, hne, hr1, hr2, hmy, hm⟩ F₁ N₁
    have hi : i < n ∧ k = a₀ + (i : Int) := by
      unfold rangeKs at hk
      rw [List.getElem?_map] at hk
      by_cases h : i < n
      · rw [List.getElem?_range h] at hk; exact ⟨h, (Option.some.inj hk).symm⟩
      · rw [List.getElem?_eq_none (by simpa using h)] at hk; cases hk
    obtain ⟨hi, rfl⟩ := hi
    have e : (fun z => if z = x then some (Value.int (a₀ + (i : Int)) t) else m₁ z) = fun z => if z = x then some (.int (a₀ + i) t) else if z = y then some (.ref r) else m₀ z := by
      funext z
      by_cases h1 : z = x
      · rw [if_pos h1, if_pos h1]
      · rw [if_neg h1, if_neg h1]
        by_cases h2 : z = y
        · rw [if_pos h2, h2, hmy]
        · rw [if_neg h2, hm z h1 h2]
    rw [e] at F₁
    have o1 : ∀ p ∈ own, p.1 ≠ r := fun p hp => hoff p hp _ (.head _)
    have o2 : ∀ p ∈ own, p.1 ≠ R := fun p hp => hoff p hp _ (.tail _ (.head _))
    have o3 : ∀ p ∈ own, ∀ q ∈ tl, p.1 ≠ q.1 := fun p hp q hq => hoff p hp q (.tail _ (.tail _ hq))
    refine turn i t r its refs c d tl (tl ++ own) _ _ hi hG hne ?_ ?_ F₁ N₁ ?_ ?_
    · intro p hp
      rcases List.mem_cons.mp hp with rfl | hp
      · exact hne
      · exact (List.mem_append.mp hp).elim (hr1 p) (o1 p)
    · exact fun p hp => (List.mem_append.mp hp).elim (hr2 p) (o2 p)
    · intro its' c' h' tk' hG' F' N'
      refine ⟨h', tk', _, _, (r, listOf its'.toArray c') :: (R, listOf refs.toArray d) :: tl, rfl, F', N', ?_, ?_, ?_, r, its', refs, c', d, tl, rfl, hG', hne, hr1, hr2, (if_neg hyx).trans (if_pos rfl), fun z h1 h2 => (if_neg h1).trans (if_neg h2)⟩
      · intro p hp
        rcases List.mem_cons.mp hp with rfl | hp
        · exact .head _
        · rcases List.mem_cons.mp hp with rfl | hp
          · exact .tail _ (.head _)
          · exact .tail _ (.tail _ (List.mem_append_left _ hp))
      · exact fun p hp => .tail _ (.tail _ (List.mem_append_right _ hp))
      · intro p hp q hq
        rcases List.mem_cons.mp hq with rfl | hq
        · exact o1 p hp
        · rcases List.mem_cons.mp hq with rfl | hq
          · exact o2 p hp
          · exact o3 p hp q hq
    · intro r' its' refs' c' d' h' tk' hG' hn1 hn2 hn3 F' N'
      refine ⟨h', tk', _, _, (r', listOf (List.toArray []) 0) :: (R, listOf refs'.toArray d') :: (r, listOf its'.toArray c') :: tl, rfl, F', N', ?_, ?_, ?_, r', [], refs', 0, d', (r, listOf its'.toArray c') :: tl, rfl, hG', hn1, ?_, ?_, if_pos rfl, fun z h1 h2 => (if_neg h2).trans ((if_neg h1).trans (if_neg h2))⟩
      · intro p hp
        rcases List.mem_cons.mp hp with rfl | hp
        · exact .head _
        · rcases List.mem_cons.mp hp with rfl | hp
          · exact .tail _ (.tail _ (.head _))
          · rcases List.mem_cons.mp hp with rfl | hp
            · exact .tail _ (.head _)
            · exact .tail _ (.tail _ (.tail _ (List.mem_append_left _ hp)))
      · exact fun p hp => .tail _ (.tail _ (.tail _ (List.mem_append_right _ hp)))
      · intro p hp q hq
        rcases List.mem_cons.mp hq with rfl | hq
        · exact hn3 p (List.mem_append_right _ hp)
        · rcases List.mem_cons.mp hq with rfl | hq
          · exact o2 p hp
          · rcases List.mem_cons.mp hq with rfl | hq
            · exact o1 p hp
            · exact o3 p hp q hq
      · intro p hp
        rcases List.mem_cons.mp hp with rfl | hp
        · exact hn2
        · exact hn3 p (List.mem_append_left _ hp)
      · intro p hp
        rcases List.mem_cons.mp hp with rfl | hp
        · exact Ne.symm hne
        · exact hr2 p hp
  · rintro m₁ nx h tk ⟨r, its, refs, c, d, tl, rfl, hG, hne, hr1, hr2, hmy, hm⟩ F₁ N₁
    have e : m₁ = fun z => if z = x then m₁ z else if z = y then some (.ref r) else m₀ z := by
      funext z
      by_cases h1 : z = x
      · rw [if_pos h1]
      · rw [if_neg h1]
        by_cases h2 : z = y
        · rw [if_pos h2, h2, hmy]
        · rw [if_neg h2, hm z h1 h2]
    rw [e] at F₁
    exact done m₁ r its refs c d tl h tk hG hne hr1 hr2 F₁ N₁
end
-- part GM
def RowsAt (lp ml k : Nat) (refs : List Value) (tl : List (Addr × Obj)) : Prop :=
  ∀ h : Heap, (∀ p ∈ tl, h.get? p.1 = some p.2) → ∃ Ts, ReadsAll h refs ((List.range k).map fun j => PyData.list (kqdPs (rowD lp ml j))) Ts
def GR (lp ml c : Nat) (its refs : List Value) (tl : List (Addr × Obj)) : Prop :=
  its.length = c % 7 ∧ refs.length = c / 7 ∧ CarriedAll its (kqdPs (((daysD lp ml).drop (7 * (c / 7))).take (c % 7))) ∧ RowsAt lp ml (c / 7) refs tl
theorem daysD_get {lp ml i : Nat} (h : i < ml) : (daysD lp ml)[lp + i]? = some (Dat.int (1 + (i : Int))) := by
  unfold daysD
  rw [List.append_assoc, List.getElem?_append_right (by simp), List.getElem?_append_left (by simp; omega)]
  simp [h]
theorem daysD_none {lp ml i : Nat} (h : i < 7) : (daysD lp ml)[lp + ml + i]? = some Dat.none := by
  unfold daysD
  rw [List.getElem?_append_right (by simp)]
  simp only [List.length_append, List.length_replicate, List.length_map, List.length_range]
  rw [show lp + ml + i - (lp + ml) = i by omega, List.getElem?_replicate, if_pos h]
theorem row_snoc {l : List Dat} {a k : Nat} {d : Dat} (h : l[a + k]? = some d) : (l.drop a).take (k + 1) = (l.drop a).take k ++ [d] := by
  rw [List.take_add_one, List.getElem?_drop, h]; rfl
theorem kqdPs_append (a b : List Dat) : kqdPs (a ++ b) = kqdPs a ++ kqdPs b := by rw [kqdPs_map, kqdPs_map, kqdPs_map, List.map_append]
theorem readsAll_snoc {h : Heap} : ∀ {vs : List Value} {ds : List PyData} {as : List Addr} {v : Value} {d : PyData} {bs : List Addr}, ReadsAll h vs ds as → Reads h v d bs → ∃ cs, ReadsAll h (vs ++ [v]) (ds ++ [d]) cs
  | _, _, _, _, _, _, .nil, k => ⟨_, .cons k .nil⟩
  | _, _, _, _, _, _, .cons hv hr, k => by
    obtain ⟨cs, x⟩ := readsAll_snoc hr k
    exact ⟨_, .cons hv x⟩
theorem gr_step {lp ml c : Nat} {its refs : List Value} {tl : List (Addr × Obj)} {v : Value} {d : Dat} (G : GR lp ml c its refs tl) (hd : (daysD lp ml)[c]? = some d) (hv : Carried v (kqdP d)) (h6 : c % 7 ≠ 6) : GR lp ml (c + 1) (its ++ [v]) refs tl := by
  obtain ⟨h1, hr, h2, h3⟩ := G
  have e1 : (c + 1) / 7 = c / 7 := by omega
  have e2 : (c + 1) % 7 = c % 7 + 1 := by omega
  refine ⟨by rw [List.length_append, h1, e2]; rfl, by rw [e1]; exact hr, ?_, by rw [e1]; exact h3⟩
  rw [e1, e2, row_snoc (d := d) (by rw [show 7 * (c / 7) + c % 7 = c by omega]; exact hd), kqdPs_append]
  refine CarriedAll.appendLM h2 ?_
  rw [kqdPs_map]
  exact .cons hv .nil
theorem gr_full {lp ml c k : Nat} {its refs : List Value} {tl : List (Addr × Obj)} {v : Value} {d : Dat} {r : Addr} (G : GR lp ml c its refs tl) (hd : (daysD lp ml)[c]? = some d) (hv : Carried v (kqdP d)) (h6 : c % 7 = 6) :
    GR lp ml (c + 1) [] (refs ++ [.ref r]) ((r, listOf (its ++ [v]).toArray k) :: tl) := by
  obtain ⟨h1, hr, h2, h3⟩ := G
  have e1 : (c + 1) / 7 = c / 7 + 1 := by omega
  have e2 : (c + 1) % 7 = 0 := by omega
  refine ⟨by rw [e2]; rfl, by rw [List.length_append, hr, e1]; rfl, by rw [e2, List.take_zero, kqdPs]; exact .nil, ?_⟩
  intro h hk
  obtain ⟨Ts, hT⟩ := h3 h fun p hp => hk p (.tail _ hp)
  rw [e1, List.range_succ, List.map_append, List.map_cons, List.map_nil]
  have hrow : CarriedAll (its ++ [v]) (kqdPs (rowD lp ml (c / 7))) := by
    unfold rowD
    rw [h6] at h2
    rw [row_snoc (k := 6) (d := d) (by rw [show 7 * (c / 7) + 6 = c by omega]; exact hd), kqdPs_append]
    refine CarriedAll.appendLM h2 ?_
    rw [kqdPs_map]
    exact .cons hv .nil
  exact readsAll_snoc hT (reads_list_at (hk _ (.head _)) rfl rfl (by simpa [PySem.W.listOf] using hrow.reads h))
theorem gr_init {lp ml : Nat} (h : lp ≤ 6) : GR lp ml lp (List.replicate lp Value.none) [] [] := by
  have e1 : lp / 7 = 0 := by omega
  have e2 : lp % 7 = lp := by omega
  refine ⟨by rw [List.length_replicate, e2], by rw [e1]; rfl, ?_, ?_⟩
  · rw [e1, e2, Nat.mul_zero, List.drop_zero]
    unfold daysD
    rw [List.append_assoc, List.take_left' (by simp), kqdPs_map, List.map_replicate, kqdP]
    exact carr_none lp
  · intro h _
    rw [e1]
    exact ⟨[], .nil⟩
-- part GN
section
variable {prog : Program} {w : World} {A : Around} {E : Value → Shared → Prop} {s : Shared} {env : Env} {test : PySem.Expr} {body : List Stmt} {Q : Flow → Shared → Prop} {h₀ : Heap} {L : Addr} {m : Str → Option Value} {rest : List (Addr × Obj)} {r : Addr}
/-- a while that turns the ledger's first list alone; f turns are left -/
theorem whl_list (G : Nat → List Value → Prop) (hE : PassesOwn (model prog w) A env E)
    (htest : ∀ (f : Nat) (its : List Value) (c : Nat) (s₁ : Shared) (Q' : Bool → Shared → Prop), G f its → Fr h₀ L s₁.heap m → News h₀ L s₁.heap ((r, listOf its.toArray c) :: rest) →
      (∀ (b : Bool) (h' : Heap) (tk' : Nat), (b = true ↔ 0 < f) → Fr h₀ L h' m → News h₀ L h' ((r, listOf its.toArray c) :: rest) → Q' b { s₁ with heap := h', toks := tk' }) →
      wpAny (model prog w) A (isTrue test env (eval test env)) Q' E s₁)
    (hbody : ∀ (f : Nat) (its : List Value) (c : Nat) (s₁ : Shared) (Q' : Flow → Shared → Prop), G (f + 1) its → Fr h₀ L s₁.heap m → News h₀ L s₁.heap ((r, listOf its.toArray c) :: rest) →
      (∀ (its' : List Value) (c' : Nat) (h' : Heap) (tk' : Nat), G f its' → Fr h₀ L h' m → News h₀ L h' ((r, listOf its'.toArray c') :: rest) → Q' .next { s₁ with heap := h', toks := tk' }) →
      wpAny (model prog w) A (execs body env) Q' E s₁) (hQ : ∀ s₁ : Shared, (∃ (its : List Value) (c : Nat), G 0 its ∧ Fr h₀ L s₁.heap m ∧ News h₀ L s₁.heap ((r, listOf its.toArray c) :: rest) ∧ ∃ h' tk', s₁ = { s with heap := h', toks := tk' }) → wpAny (model prog w) A (execs [] env) Q E s₁) :
    ∀ (f : Nat) (its : List Value) (c : Nat) (s₁ : Shared), G f its → Fr h₀ L s₁.heap m → News h₀ L s₁.heap ((r, listOf its.toArray c) :: rest) → (∃ h' tk', s₁ = { s with heap := h', toks := tk' }) → WhlRest prog w A E env test body [] Q (f + 1) s₁
  | 0, its, c, s₁, hG, F, N, hs => by
    refine whl_turn hE (htest 0 its c s₁ _ hG F N fun b h' tk' hb F' N' => ?_)
    have hb' : b = false := by
      cases b with
      | false => rfl
      | true => exact absurd (hb.mp rfl) (Nat.lt_irrefl 0)
    refine WhlIf.no hb' (hQ _ ⟨its, c, hG, F', N', ?_⟩)
    obtain ⟨_, _, rfl⟩ := hs
    exact ⟨h', tk', rfl⟩
  | f + 1, its, c, s₁, hG, F, N, hs => by
    refine whl_turn hE (htest (f + 1) its c s₁ _ hG F N fun b h' tk' hb F' N' => ?_)
    refine WhlIf.yes (hb.mpr (Nat.succ_pos f)) (hbody f its c _ _ hG F' N' fun its' c' h2 tk2 hG' F2 N2 => ?_)
    refine whl_list G hE htest hbody hQ f its' c' _ hG' F2 N2 ?_
    obtain ⟨_, _, rfl⟩ := hs
    exact ⟨h2, tk2, rfl⟩
theorem whl_rows (G : Nat → List Value → Prop) {pos : Pos} {f c : Nat} {its : List Value} (hG : G f its) (F : Fr h₀ L s.heap m) (N : News h₀ L s.heap ((r, listOf its.toArray c) :: rest)) (hE : PassesOwn (model prog w) A env E)
    (htest : ∀ (f : Nat) (its : List Value) (c : Nat) (s₁ : Shared) (Q' : Bool → Shared → Prop), G f its → Fr h₀ L s₁.heap m → News h₀ L s₁.heap ((r, listOf its.toArray c) :: rest) →
      (∀ (b : Bool) (h' : Heap) (tk' : Nat), (b = true ↔ 0 < f) → Fr h₀ L h' m → News h₀ L h' ((r, listOf its.toArray c) :: rest) → Q' b { s₁ with heap := h', toks := tk' }) →
      wpAny (model prog w) A (isTrue test env (eval test env)) Q' E s₁)
    (hbody : ∀ (f : Nat) (its : List Value) (c : Nat) (s₁ : Shared) (Q' : Flow → Shared → Prop), G (f + 1) its → Fr h₀ L s₁.heap m → News h₀ L s₁.heap ((r, listOf its.toArray c) :: rest) →
      (∀ (its' : List Value) (c' : Nat) (h' : Heap) (tk' : Nat), G f its' → Fr h₀ L h' m → News h₀ L h' ((r, listOf its'.toArray c') :: rest) → Q' .next { s₁ with heap := h', toks := tk' }) →
      wpAny (model prog w) A (execs body env) Q' E s₁)
    (done : ∀ (its : List Value) (c : Nat) (h' : Heap) (tk' : Nat), G 0 its → Fr h₀ L h' m → News h₀ L h' ((r, listOf its.toArray c) :: rest) → wpAny (model prog w) A (execs [] env) Q E { s with heap := h', toks := tk' }) :
    wpAny (model prog w) A (exec (.While test body [] pos) env) Q E s := by
  refine whl_start (f + 1) (whl_list G hE htest hbody (fun s₁ h => ?_) f its c s hG F N ⟨_, _, rfl⟩)
  obtain ⟨its, c, hG, F, N, h', tk', rfl⟩ := h
  exact done its c h' tk' hG F N
end
theorem ne_cons9 {R r : Addr} {o : Obj} {tl : List (Addr × Obj)} (h : R ≠ r) (h1 : ∀ p ∈ tl, p.1 ≠ r) : ∀ p ∈ (R, o) :: tl, p.1 ≠ r := fun p hp => (List.mem_cons.mp hp).elim (fun e => by rw [e]; exact h) (h1 p)
theorem gr_turn1 {lp i : Nat} {ln : Int} {its refs : List Value} {tl : List (Addr × Obj)} {t : Tok} (hi : i < (ln + 1 - 1).toNat) (G : GR lp ln.toNat (lp + i) its refs tl) (h : ((its ++ [Value.int (1 + (i : Int)) t]).length : Int) ≠ 7) :
    GR lp ln.toNat (lp + (i + 1)) (its ++ [Value.int (1 + (i : Int)) t]) refs tl := by
  have h1 := G.1
  rw [List.length_append] at h
  simp only [List.length_cons, List.length_nil] at h
  refine gr_step (c := lp + i) G (daysD_get (i := i) (by omega)) ?_ (by omega)
  rw [kqdP]; exact .int _ _
theorem gr_turn2 {lp i k : Nat} {ln : Int} {its refs : List Value} {tl : List (Addr × Obj)} {t : Tok} {r : Addr} (hi : i < (ln + 1 - 1).toNat) (G : GR lp ln.toNat (lp + i) its refs tl) (h : ((its ++ [Value.int (1 + (i : Int)) t]).length : Int) = 7) :
    GR lp ln.toNat (lp + (i + 1)) [] (refs ++ [.ref r]) ((r, listOf (its ++ [Value.int (1 + (i : Int)) t]).toArray k) :: tl) := by
  have h1 := G.1
  rw [List.length_append] at h
  simp only [List.length_cons, List.length_nil] at h
  refine gr_full (c := lp + i) G (daysD_get (i := i) (by omega)) ?_ (by omega)
  rw [kqdP]; exact .int _ _
theorem gr_last {lp : Nat} {ln : Int} {its refs : List Value} {tl : List (Addr × Obj)} (G : GR lp ln.toNat (lp + (ln + 1 - 1).toNat) its refs tl) : GR lp ln.toNat (lp + ln.toNat) its refs tl := by
  rwa [show (ln + 1 - 1).toNat = ln.toNat by omega] at G
/-- the last row while it is filled with None; f Nones are wanted -/
def GW (lp ml f : Nat) (its : List Value) : Prop :=
  its.length + f = (if (lp + ml) % 7 = 0 then 0 else 7) ∧ (lp + ml) % 7 ≤ its.length ∧ CarriedAll its (kqdPs (((daysD lp ml).drop (7 * ((lp + ml) / 7))).take its.length))
theorem gw_scal {lp ml f : Nat} {its : List Value} (_ : GW lp ml f its) : Scal (((daysD lp ml).drop (7 * ((lp + ml) / 7))).take its.length) := fun c hc => daysD_scal c (List.mem_of_mem_drop (List.mem_of_mem_take hc))
theorem gw_init {lp ml : Nat} {its refs : List Value} {tl : List (Addr × Obj)} (G : GR lp ml (lp + ml) its refs tl) : GW lp ml (if (lp + ml) % 7 = 0 then 0 else 7 - (lp + ml) % 7) its := by
  obtain ⟨h1, _, h2, _⟩ := G
  refine ⟨?_, by omega, by rw [h1]; exact h2⟩
  split <;> omega
theorem gw_len {lp ml f : Nat} {its : List Value} (G : GW lp ml f its) : its.length + f ≤ 7 := by
  have := G.1
  split at this <;> omega
theorem gw_step {lp ml f : Nat} {its : List Value} (G : GW lp ml (f + 1) its) : GW lp ml f (its ++ [Value.none]) := by
  obtain ⟨h1, h2, h3⟩ := G
  refine ⟨by rw [List.length_append]; simp only [List.length_cons, List.length_nil]; omega, by rw [List.length_append]; omega, ?_⟩
  have h7 : its.length < 7 := by split at h1 <;> omega
  have e : (daysD lp ml)[7 * ((lp + ml) / 7) + its.length]? = some Dat.none := by
    rw [show 7 * ((lp + ml) / 7) + its.length = lp + ml + (its.length - (lp + ml) % 7) by omega]
    exact daysD_none (by omega)
  rw [List.length_append]
  show CarriedAll _ (kqdPs (List.take (its.length + 1) _))
  rw [row_snoc e, kqdPs_append]
  refine CarriedAll.appendLM h3 ?_
  rw [kqdPs_map]
  show CarriedAll _ [kqdP Dat.none]
  rw [kqdP]
  exact .cons .none .nil
theorem gw_test {lp ml f : Nat} {its : List Value} (G : GW lp ml f its) : (Int.fmod (its.length : Int) 7 ≠ 0) ↔ 0 < f := by
  obtain ⟨h1, h2, _⟩ := G
  rw [Int.fmod_eq_emod_of_nonneg _ (by decide)]
  split at h1 <;> omega
theorem gw_end0 {lp ml : Nat} {its : List Value} (G : GW lp ml 0 its) : (its = [] ∧ (lp + ml) % 7 = 0) ∨ (its ≠ [] ∧ (lp + ml) % 7 ≠ 0 ∧ CarriedAll its (kqdPs (rowD lp ml ((lp + ml) / 7)))) := by
  obtain ⟨h1, h2, h3⟩ := G
  by_cases h : (lp + ml) % 7 = 0
  · rw [if_pos h] at h1
    exact .inl ⟨List.length_eq_zero_iff.mp (by omega), h⟩
  · rw [if_neg h] at h1
    refine .inr ⟨fun e => by rw [e] at h1; simp at h1, h, ?_⟩
    unfold rowD
    rw [show its.length = 7 by omega] at h3
    exact h3
theorem gw_nil {lp ml : Nat} {its : List Value} (G : GW lp ml 0 its) (h : its = []) : (lp + ml) % 7 = 0 := by
  rcases gw_end0 G with q | q
  · exact q.2
  · exact absurd h q.1
theorem gw_full {lp ml : Nat} {its : List Value} (G : GW lp ml 0 its) (h : ¬ its = []) : (lp + ml) % 7 ≠ 0 ∧ CarriedAll its (kqdPs (rowD lp ml ((lp + ml) / 7))) := by
  rcases gw_end0 G with q | q
  · exact absurd q.1 h
  · exact q.2
theorem gridD_eq (lp ml : Nat) : kqdP (gridD lp ml) = .list ((List.range ((lp + ml + 6) / 7)).map fun j => .list (kqdPs (rowD lp ml j))) := by
  unfold gridD
  rw [kqdP, kqdPs_map, List.map_map]
  congr 1
theorem rows_read_b {lp ml n : Nat} {refs : List Value} {tl : List (Addr × Obj)} {R : Addr} (G : RowsAt lp ml ((lp + ml) / 7) refs tl) (h0 : (lp + ml) % 7 = 0) :
    ∀ h : Heap, (∀ p ∈ (R, listOf refs.toArray n) :: tl, h.get? p.1 = some p.2) → ∃ as, Reads h (.ref R) (kqdP (gridD lp ml)) as := by
  intro h hk
  obtain ⟨Ts, hT⟩ := G h fun p hp => hk p (.tail _ hp)
  rw [gridD_eq, show (lp + ml + 6) / 7 = (lp + ml) / 7 by omega]
  exact ⟨_, reads_list_at (hk _ (.head _)) rfl rfl (by simpa [PySem.W.listOf] using hT)⟩
theorem rows_read_a {lp ml n c : Nat} {its refs : List Value} {tl : List (Addr × Obj)} {D r : Addr} (G : RowsAt lp ml ((lp + ml) / 7) refs tl) (h0 : (lp + ml) % 7 ≠ 0) (hi : CarriedAll its (kqdPs (rowD lp ml ((lp + ml) / 7)))) :
    ∀ h : Heap, (∀ p ∈ (D, listOf (refs ++ [Value.ref r]).toArray n) :: (r, listOf its.toArray c) :: tl, h.get? p.1 = some p.2) → ∃ as, Reads h (.ref D) (kqdP (gridD lp ml)) as := by
  intro h hk
  obtain ⟨Ts, hT⟩ := G h fun p hp => hk p (.tail _ (.tail _ hp))
  have hr : ∃ bs, Reads h (.ref r) (.list (kqdPs (rowD lp ml ((lp + ml) / 7)))) bs := ⟨_, reads_list_at (hk _ (.tail _ (.head _))) rfl rfl (by simpa [PySem.W.listOf] using hi.reads h)⟩
  obtain ⟨bs, hr⟩ := hr
  obtain ⟨cs, hc⟩ := readsAll_snoc hT hr
  rw [gridD_eq, show (lp + ml + 6) / 7 = (lp + ml) / 7 + 1 by omega, List.range_succ, List.map_append, List.map_cons, List.map_nil]
  exact ⟨_, reads_list_at (hk _ (.head _)) rfl rfl (by simpa [PySem.W.listOf] using hc)⟩
theorem end_rows {d : Dat} {g h₀ h' : Heap} {L L' D : Addr} {m : Str → Option Value} {news tl' rest rest' : List (Addr × Obj)} {s : Shared} {tk : Nat} {Q : Value → Shared → Prop}
    (hret : ∀ v tl h' tk', PG d tl v → Fr h₀ L h' m → News h₀ L h' (tl ++ news) → (∀ q ∈ tl, ∀ p ∈ news, p.1 ≠ q.1) → Q v { s with heap := h', toks := tk' })
    (kF : Fr h₀ L h' m) (M : ∀ tl, News h₀ L h' tl → News h₀ L h' (tl ++ news)) (S : ∀ tl, News g L' h' tl → ∀ q ∈ tl, ∀ p ∈ news, p.1 ≠ q.1)
    (kN : News h₀ L h' rest) (N' : News g L' h' rest') (hr : ∀ h : Heap, (∀ p ∈ tl', h.get? p.1 = some p.2) → ∃ as, Reads h (.ref D) (kqdP d) as) (s1 : ∀ p ∈ tl', p ∈ rest) (s2 : ∀ p ∈ tl', p ∈ rest') : Q (.ref D) { s with heap := h', toks := tk } :=
  hret (.ref D) tl' h' tk ⟨⟨D, rfl⟩, hr⟩ kF (M _ fun p hp => kN p (s1 p hp)) (S _ fun p hp => N' p (s2 p hp))
section
variable {prog : Program} {w : World} {A : Around} {E : Value → Shared → Prop} {s : Shared} {h₀ : Heap} {L : Addr} {m : Str → Option Value} {news : List (Addr × Obj)} {Q : Value → Shared → Prop}
theorem ne_nil_row {r e : Addr} {its : List Value} {ds : List Dat} {c n : Nat} (N : News h₀ L s.heap news) (hr : (r, listOf its.toArray c) ∈ news) (he : (e, listOf (List.toArray []) n) ∈ news) (hc : CarriedAll its (kqdPs ds)) (hs : Scal ds) (hu : A.units + 64 < cLine)
    (h : Q (.bool (!decide (its = []))) s) : wpAny (model prog w) A (compareOp .NotEq (.ref r) (.ref e)) Q E s := by
  have ok : ∀ xs : List Dat, Scal xs → kqdOk 9 (.list xs) = true := by
    intro xs hx
    simp only [kqdOk, List.all_eq_true]
    intro d hd
    rcases hx d hd with rfl | ⟨i, rfl⟩ <;> rfl
  have sh : ∀ d : Dat, kqdOk 9 d = true → SeqAt.shaped (kqdP d) = true := by
    intro d hok
    have la := kqd_lay 9 d hok
    unfold SeqAt.shaped; rw [la.1, Bool.true_and]; exact decide_eq_true (Nat.le_trans la.2 (by decide))
  have ra : ∃ as, Reads s.heap (.ref r) (kqdP (.list ds)) as := by
    rw [kqdP]; exact ⟨_, reads_list_at (N _ hr).1 rfl rfl (by simpa [PySem.W.listOf] using hc.reads s.heap)⟩
  have rb : ∃ as, Reads s.heap (.ref e) (kqdP (.list [])) as := by
    rw [kqdP, kqdPs]; exact ⟨_, reads_list_at (N _ he).1 rfl rfl .nil⟩
  obtain ⟨as, ra⟩ := ra
  obtain ⟨bs, rb⟩ := rb
  have o1 := ok ds hs
  have o2 := ok [] fun _ h => nomatch h
  refine ne_dataH ra rb (sh _ o1) (sh _ o2) hu ?_
  have e := kqd_eqv 9 (.list ds) (.list []) 9 o1 o2
  have hlen : its = [] ↔ ds = [] := by
    rw [kqdPs_map] at hc
    cases ds with
    | nil => cases hc; exact ⟨fun _ => rfl, fun _ => rfl⟩
    | cons d r => cases hc; exact ⟨fun h => (nomatch h), fun h => (nomatch h)⟩
  have e2 : PyData.eqv (kqdP (.list ds)) (kqdP (.list [])) = decide (its = []) := by
    by_cases q : ds = []
    · rw [decide_eq_true (hlen.mpr q)]; exact e.mpr (by rw [q])
    · rw [decide_eq_false (fun h => q (hlen.mp h))]
      cases hb : PyData.eqv (kqdP (.list ds)) (kqdP (.list [])) with
      | false => rfl
      | true => exact absurd (Dat.list.inj (e.mp hb)) q
  rw [e2]; exact h
end
-- part G2
theorem ln_G2_1 : True := by
  k_with_none
  (k_with "execs cons" => (k_here; (try dsimp only); k_gentoks))
  (k_with "execs nil" => (k_here; (try dsimp only); k_gentoks))
  (k_with "pyIter ref" => (k_here; refine stop_here ?_))
  (k_with "last exec While" => (k_here; refine stop_here ?_))
  (k_with "exec While Compare cons nil" => (k_here; refine stop_here ?_))
  (k_with "compareOp NotEq ref ref" => (k_here; k_dflt (refine' ne_nil_row ?NZq ?rZq ?eZq ?cZq ?sZq ?uZq ?_; (case NZq => k_asm); (case rZq => k_mem); (case eZq => k_mem); (case cZq => assumption); (case sZq => assumption); (case uZq => first | ke_room | ktr_units | units_room); k_whole); walk_say "NE NIL"))
  (k_with "call type:range" => (k_here; (rename Fr _ _ _ _ => F'); (rename News _ _ _ _ => N'); first | (with_unfolding_all refine range1_rows F' N' ?_; intro _ _ _ _ _ _ _ _ _) | (with_unfolding_all refine range2_rows F' N' ?_; intro _ _ _ _ _ _ _ _ _)))
  (k_with "call builtin:list.append" => (k_here; k_dflt (first | (refine' app_one ?FZq ?NZq ?eZq ?zZq ?_; (case FZq => k_asm); (case NZq => k_asm); (case eZq => assumption); (case zZq => first | omega | (simp only [List.length_replicate]; omega)); k_whole; intro h' F' N') | (refine' app_two ?FZq ?NZq ?qZq ?eZq ?zZq ?_; (case FZq => k_asm); (case NZq => k_asm); (case qZq => exact Ne.symm (by assumption)); (case eZq => assumption); (case zZq => omega); k_whole; intro h' F' N')); walk_say "APP"))
  (k_with "call builtin:len" => (k_here; k_dflt (refine' kst_len ?NZq ?mZq rfl ?zZq ?_; (case NZq => k_asm); (case mZq => k_mem); (case zZq => ((try simp only [List.length_append, List.length_cons, List.length_nil, List.length_replicate]); omega)); k_whole); walk_say "LEN"))
  trivial
set_option maxHeartbeats 0 in
theorem c_rows (st ln : Int) (tst tln : Tok) (h0 : 0 ≤ st ∧ st ≤ 6) (h1 : 5 ≤ ln ∧ ln ≤ 31) : Con 12 378 [.int st tst, .int ln tln] (PG (gridD (Int.fmod (st + 1) 7).toNat ln.toNat)) := by
  have hlp : 0 ≤ Int.fmod (st + 1) 7 ∧ Int.fmod (st + 1) 7 ≤ 6 := by rw [Int.fmod_eq_emod_of_nonneg _ (by decide)]; omega
  unfold Con
  k_fill
  w_on
  intros; rename_i hret
  refine wpAny_call ?_
  k_dflt (refine' code_p ?k1 ?k2 ?k3 ?k4 ?k5 ?kA ?kF ?kK ?k6 ?k7 ?k8 ?k9 ?kB ?_ ?c2 ?c3 ?c4 ?c5; (case kA => exact rfl); (case kF => exact rfl); (case kK => assumption); (case k1 => k_asm); (case k2 => k_asm); (case k3 => k_asm); (case k4 => k_asm); (case k5 => k_asm); (case k6 => k_is); (case k7 => k_is); (case k8 => first | exact Nat.lt_of_le_of_lt (Nat.le_add_right _ _) (by assumption) | ktr_room); (case k9 => first | exact BindsTo.of_eq rfl | exact binds_K (by k_in) rfl (by k_is) rfl rfl rfl); (case c5 => decide); (case kB => exact locs rfl); (case c2 => exact rfl); (case c3 => exact rfl); (case c4 => exact rfl); k_whole; intro g' L' h' FG' F' N' B' X' T'; (try dsimp only); (try k_lift B'); (try k_fold))
  k_steps

  unfold StopHere
  rename IsRange _ _ _ _ _ _ _ _ => rgX
  k_dflt (refine' rng_two (n := (Int.fmod (st + 1) 7).toNat) (fun i o => ∃ c, o = listOf (List.replicate i Value.none).toArray c) ?hh rgX ?hs ?hn ?F ?N ?h0 ?hrR ?turn ?done; (case hh => exact rfl); (case hs => exact small_one (by omega) (by omega) (by omega) (by omega)); (case F => k_asm); (case N => k_asm); (case h0 => exact ⟨0, rfl⟩); (case hrR => k_ne))
  case hn => exact (rangeSize_nat _ _).trans (by rw [Int.sub_zero])
  case turn =>
    rintro i t o s₁ own Q' hi ⟨c, rfl⟩ hne F N K
    clear rgX
    k_steps
    all_goals (k_dflt (refine' K _ _ _ ⟨_, congrArg (fun l => listOf (List.toArray l) _) (List.replicate_succ' ..).symm⟩ ?kF ?kN; (case kF => k_asm); (case kN => k_asm)))
  case done =>
    rintro u o h tk ⟨c, rfl⟩ F N
    clear rgX
    (try k_fold)
    k_steps
    unfold StopHere
    rename IsRange _ _ _ _ _ _ _ _ => rgX
    k_dflt (refine' rng_rows (y := Str.ofString "row") (n := (ln + 1 - 1).toNat) (fun i its refs tl => GR (Int.fmod (st + 1) 7).toNat ln.toNat ((Int.fmod (st + 1) 7).toNat + i) its refs tl) ?hyx ?hh rgX ?hs ?hn ?F ?N ?hy ?h0 ?hrR ?turn ?done; (case hyx => decide); (case hh => exact rfl); (case hs => exact small_one (by omega) (by omega) (by omega) (by omega)); (case hn => exact rangeSize_nat _ _); (case F => k_asm); (case N => k_asm); (case hy => exact rfl); (case h0 => exact gr_init (by omega)); (case hrR => k_ne))
    case turn =>
      rintro i t r its refs c d tl rest s₁ Q' hi hG hRr hne hnR F N K1 K2
      clear rgX
      have hL9 := hG.1
      have hL8 := hG.2.1
      k_steps
      all_goals first
        | (k_dflt (refine' K1 _ _ _ _ ?g ?kF ?kN; (case kF => k_asm); (case kN => k_asm); (case g => exact gr_turn1 hi hG (by assumption))))
        | (k_dflt (refine' K2 _ _ _ _ _ _ _ ?g ?n1 ?n2 ?n3 ?kF ?kN; (case kF => k_asm); (case kN => k_asm); (case n1 => k_ne); (case n2 => k_ne); (case n3 => k_all); (case g => exact gr_turn2 hi hG (by assumption))))
        | (fail "stop")
    case done =>
      intro u r its refs c d tl h tk hG hRr hr1 hr2 F N
      clear rgX
      (try k_fold)
      have hL9 := hG.1
      have hL8 := hG.2.1
      k_steps
      unfold StopHere
      have hGW := gw_init (gr_last hG)
      have hne9 := ne_cons9 (o := listOf refs.toArray d) hRr hr1
      have hRo := (gr_last hG).2.2.2
      k_dflt (refine' whl_rows (GW (Int.fmod (st + 1) 7).toNat ln.toNat) hGW ?F ?N ?hE ?htest ?hbody ?done; (case F => k_asm); (case N => k_asm); (case hE => first | passes_own | with_unfolding_all passes_own))
      case htest =>
        intro f its c s₁ Q' hW F N K
        have hL7 := gw_len hW
        have hT := gw_test hW
        k_steps
        all_goals (k_dflt (refine' K _ _ _ ?b ?kF ?kN; (case kF => k_asm); (case kN => k_asm); (case b => exact bne_iff_ne.trans hT)))
      case hbody =>
        intro f its c s₁ Q' hW F N K
        have hL7 := gw_len hW
        k_steps
        all_goals (k_dflt (refine' K _ _ _ _ (gw_step hW) ?kF ?kN; (case kF => k_asm); (case kN => k_asm)))
      case done =>
        intro its c h2 tk2 hW F N
        have hL7 := gw_len hW
        have hCa := hW.2.2
        have hSc := gw_scal hW
        k_steps
        all_goals first
          | (have hE0 : its = [] := (by assumption)
             have h70 := gw_nil hW hE0
             refine end_rows hret (by k_asm) (by assumption) (by assumption) (by k_asm) (by k_asm) (rows_read_b (n := d) hRo h70) ?s1 ?s2
             case s1 => exact List.forall_mem_cons.mpr ⟨by k_mem, fun p hp => by repeat first | exact hp | refine List.Mem.tail _ ?_⟩
             case s2 => exact List.forall_mem_cons.mpr ⟨by k_mem, fun p hp => by repeat first | exact hp | refine List.Mem.tail _ ?_⟩)
          | (have hE0 : ¬ its = [] := (by assumption)
             obtain ⟨h70, hCr⟩ := gw_full hW hE0
             k_dflt (refine' end_rows hret ?kF ?M ?S ?kN ?N (rows_read_a (n := 0) (c := c) hRo h70 hCr) ?s1 ?s2; (case kF => k_asm); (case M => assumption); (case S => assumption); (case kN => k_asm); (case N => k_asm); (case s1 => exact List.forall_mem_cons.mpr ⟨by first | exact List.Mem.head _ | exact List.Mem.tail _ (List.Mem.head _) | exact List.Mem.tail _ (List.Mem.tail _ (List.Mem.tail _ (List.Mem.head _))), List.forall_mem_cons.mpr ⟨by exact List.Mem.tail _ (List.Mem.tail _ (List.Mem.tail _ (List.Mem.head _))), fun p hp => List.Mem.tail _ (List.Mem.tail _ (List.Mem.tail _ (List.Mem.tail _ (List.Mem.tail _ hp))))⟩⟩); (case s2 => exact List.forall_mem_cons.mpr ⟨by first | exact List.Mem.head _ | exact List.Mem.tail _ (List.Mem.head _) | exact List.Mem.tail _ (List.Mem.tail _ (List.Mem.tail _ (List.Mem.head _))), List.forall_mem_cons.mpr ⟨by exact List.Mem.tail _ (List.Mem.tail _ (List.Mem.tail _ (List.Mem.head _))), fun p hp => List.Mem.tail _ (List.Mem.tail _ (List.Mem.tail _ (List.Mem.tail _ (List.Mem.tail _ hp))))⟩⟩)))
          | (fail "stop")
-- part PI
theorem mlI_a {y m : Int} (h : 1 ≤ m ∧ m ≤ 12) (h2 : Int.fmod m 2 = 1) : mlI y m = 30 := by
  rcases m12' h with rfl | rfl | rfl | rfl | rfl | rfl | rfl | rfl | rfl | rfl | rfl | rfl <;> first | exact absurd h2 (by decide) | exact if_pos (by decide)
theorem mlI_bb {y m : Int} (h : 1 ≤ m ∧ m ≤ 12) (h2 : Int.fmod m 2 ≠ 1) (h3 : m ≠ 12) : mlI y m = 29 := by
  rcases m12' h with rfl | rfl | rfl | rfl | rfl | rfl | rfl | rfl | rfl | rfl | rfl | rfl <;> first | exact absurd (by decide) h2 | exact absurd rfl h3 | exact (if_neg (by decide)).trans (if_neg (by decide))
def leapIs : List Int := [2, 5, 7, 10, 13, 16, 18, 21, 24, 26, 29]
theorem leapI_fin : ∀ r : Fin 30, ((((r.1 : Int) * 11 + 14) % 30 < 11) ↔ (r.1 : Int) ∈ leapIs) := by decide
theorem leapI_all (y : Int) : (Int.fmod (y * 11 + 14) 30 < 11) ↔ Int.fmod y 30 ∈ leapIs := by
  rw [Int.fmod_eq_emod_of_nonneg _ (by decide), Int.fmod_eq_emod_of_nonneg _ (by decide)]
  have h := leapI_fin ⟨(y % 30).toNat, by omega⟩
  have e : (((y % 30).toNat : Nat) : Int) = y % 30 := by omega
  simp only [e] at h
  rw [show (y * 11 + 14) % 30 = (y % 30 * 11 + 14) % 30 by omega]
  exact h
section
variable {prog : Program} {w : World} {A : Around} {E : Value → Shared → Prop} {s : Shared} {Q : Value → Shared → Prop}
theorem any_leap (x : Int) : leapIs.any (· == x) = decide (x ∈ leapIs) := by
  rw [List.any_beq', List.contains_eq_mem]
theorem in_leapT {t : Addr} {items : Array Value} {x : Int} {u : Tok} (ht : IsTup s.heap t items) (hi : IntsAre items.toList leapIs) (hx : x ∈ leapIs) (h : Q (.bool true) s) :
    wpAny (model prog w) A (compareOp .In (.int x u) (.ref t)) Q E s := in_tuple_ints ht hi (by rw [any_leap, decide_eq_true hx]; exact h)
theorem in_leapF {t : Addr} {items : Array Value} {x : Int} {u : Tok} (ht : IsTup s.heap t items) (hi : IntsAre items.toList leapIs) (hx : ¬ x ∈ leapIs) (h : Q (.bool false) s) :
    wpAny (model prog w) A (compareOp .In (.int x u) (.ref t)) Q E s := in_tuple_ints ht hi (by rw [any_leap, decide_eq_false hx]; exact h)
end
theorem mlI_c {y : Int} (h : Int.fmod y 30 ∈ leapIs) : mlI y 12 = 30 := (if_neg (by decide)).trans ((if_pos rfl).trans (if_pos ((leapI_all y).mpr h)))
theorem mlI_d {y : Int} (h : ¬ Int.fmod y 30 ∈ leapIs) : mlI y 12 = 29 := (if_neg (by decide)).trans ((if_pos rfl).trans (if_neg fun q => h ((leapI_all y).mp q)))
-- part M2
theorem mlI_12 {y m : Int} (h : Int.fmod y 30 ∈ leapIs) (e : m = 12) : 30 = mlI y m := by subst e; exact (mlI_c h).symm
theorem mlI_12' {y m : Int} (h : ¬ Int.fmod y 30 ∈ leapIs) (e : m = 12) : 29 = mlI y m := by subst e; exact (mlI_d h).symm
theorem ln_M2_1 : True := by
  k_with_none
  (k_with "execs cons" => (k_here; (try dsimp only); k_gentoks))
  (k_with "execs nil" => (k_here; (try dsimp only); k_gentoks))
  (k_with "call ref" => (k_here; k_dflt (refine' con_int (c_jdI _ _ _ _ _) ?k1Zq ?k2Zq ?k3Zq ?k4Zq ?k5Zq ?kKZq ?kdZq ?kuZq ?_; (case k1Zq => k_asm); (case k2Zq => k_asm); (case k3Zq => k_asm); (case k4Zq => k_asm); (case k5Zq => k_asm); (case kKZq => first | exact rfl | assumption); (case kdZq => first | exact room_of (by assumption) (by rfl) | ktr_room); (case kuZq => first | exact units_of (by assumption) (by rfl) | ktr_units)); intro t9 h9 tk9 F9 N9; (try dsimp only); (try k_fold); walk_say "USE c_jdI"))
  (k_with "call ref" => (k_here; k_dflt (refine' con_int (c_mlI _ _ _ _) ?k1Zq ?k2Zq ?k3Zq ?k4Zq ?k5Zq ?kKZq ?kdZq ?kuZq ?_; (case k1Zq => k_asm); (case k2Zq => k_asm); (case k3Zq => k_asm); (case k4Zq => k_asm); (case k5Zq => k_asm); (case kKZq => first | exact rfl | assumption); (case kdZq => first | exact room_of (by assumption) (by rfl) | ktr_room); (case kuZq => first | exact units_of (by assumption) (by rfl) | ktr_units)); intro t9 h9 tk9 F9 N9; (try dsimp only); (try k_fold); walk_say "USE c_mlI"))
  (k_with "call ref" => (k_here; k_dflt (refine' con_grid (c_mcI _ _ _ _) ?k1Zq ?k2Zq ?k3Zq ?k4Zq ?k5Zq ?kKZq ?kdZq ?kuZq ?_; (case k1Zq => k_asm); (case k2Zq => k_asm); (case k3Zq => k_asm); (case k4Zq => k_asm); (case k5Zq => k_asm); (case kKZq => first | exact rfl | assumption); (case kdZq => first | exact room_of (by assumption) (by rfl) | ktr_room); (case kuZq => first | exact units_of (by assumption) (by rfl) | ktr_units)); intro a9 tl9 h9 tk9 G9 F9 N9 l9; (try dsimp only); (try k_fold); walk_say "USE c_mcI"))
  (k_with "call ref" => (k_here; k_dflt (refine' con_grid (c_rows _ _ _ _ ?p0Zq ?p1Zq) ?k1Zq ?k2Zq ?k3Zq ?k4Zq ?k5Zq ?kKZq ?kdZq ?kuZq ?_; (case p0Zq => first | assumption | omega | l_fact | (simp_all; done) | (simp_all; omega)); (case p1Zq => first | assumption | omega | l_fact | (simp_all; done) | (simp_all; omega)); (case k1Zq => k_asm); (case k2Zq => k_asm); (case k3Zq => k_asm); (case k4Zq => k_asm); (case k5Zq => k_asm); (case kKZq => first | exact rfl | assumption); (case kdZq => first | exact room_of (by assumption) (by rfl) | ktr_room); (case kuZq => first | exact units_of (by assumption) (by rfl) | ktr_units)); intro a9 tl9 h9 tk9 G9 F9 N9 l9; (try dsimp only); (try k_fold); walk_say "USE c_rows"))
  (k_with "subscriptTail" => (k_here; (with_reducible show wpAny _ _ (subscriptTail _ _ (Value.ref _) (Value.int _ _)) _ _ _); k_dflt (refine' item_made ?NZq ?mZq ?iZq ?aZq ?bZq ?lZq ?_ ?sZq; (case NZq => k_asm); (case mZq => k_mem); (case iZq => assumption); (case aZq => omega); (case bZq => (simp only [szL, List.length_cons, List.length_nil]; omega)); (case lZq => exact Nat.le_of_ble_eq_true rfl); (case sZq => with_unfolding_all rfl); k_whole; intro t9); walk_say "ITEM"))
  (k_with "subscriptTail" => (k_here; (with_reducible show wpAny _ _ (subscriptTail _ (Expr.Slice _ _ _ _) (Value.ref _) (Value.ref _)) _ _ _); k_dflt (refine' slice_made_upto2 ?FZq ?NZq ?mZq ?iZq ?aZq ?bZq ?lZq ?_ ?sZq; (case FZq => k_asm); (case NZq => k_asm); (case mZq => k_mem); (case iZq => assumption); (case aZq => omega); (case bZq => (simp only [szL, List.length_cons, List.length_nil]; omega)); (case lZq => exact Nat.le_of_ble_eq_true rfl); (case sZq => with_unfolding_all rfl); k_whole; intro D ws h' F' N' l1 i1; (try k_lt l1)); walk_say "SLICE"))
  (k_with "compareOp Eq ref ref" => (k_here; k_dflt (refine' grid_eq2 ?NZq ?raZq ?haZq ?rbZq ?hbZq ?hdZq (gridD_ok _ _) ?huZq ?_; (case NZq => k_asm); (case raZq => assumption); (case rbZq => assumption); (case hdZq => first | rfl | exact grid_congr (by assumption) (by assumption) | (congr 2; done) | (congr 2 <;> law_clear <;> omega)); (case haZq => exact fun p hp => by first | exact List.mem_append_left _ hp | exact List.mem_append_right _ (List.mem_append_left _ hp)); (case hbZq => exact fun p hp => by first | exact List.mem_append_left _ hp | exact List.mem_append_right _ (List.mem_append_left _ hp)); (case huZq => first | ke_room | ktr_units); k_whole); walk_say "GRIDS"))
  (k_with "compareOp In" => (k_here; k_dflt (refine' in_leapT ?tZq ?iZq ?xZq ?_; (case tZq => exact News.isTup (by k_asm) (by k_mem)); (case iZq => repeat constructor); (case xZq => assumption); k_whole); walk_say "IN LEAP"))
  (k_with "compareOp In int ref" => (k_here; k_dflt (refine' in_leapT ?tZq ?iZq ?xZq ?_; (case tZq => exact News.isTup (by k_asm) (by k_mem)); (case iZq => repeat constructor); (case xZq => assumption); k_whole); walk_say "IN LEAP"))
  (k_with "compareOp In" => (k_here; k_dflt (refine' in_leapF ?tZq ?iZq ?xZq ?_; (case tZq => exact News.isTup (by k_asm) (by k_mem)); (case iZq => repeat constructor); (case xZq => assumption); k_whole); walk_say "IN LEAP"))
  (k_with "compareOp In int ref" => (k_here; k_dflt (refine' in_leapF ?tZq ?iZq ?xZq ?_; (case tZq => exact News.isTup (by k_asm) (by k_mem)); (case iZq => repeat constructor); (case xZq => assumption); k_whole); walk_say "IN LEAP"))
  (k_with "eval IfExp" => (k_here; (with_reducible show wpAny _ _ (eval (Expr.IfExp (Expr.BoolOp _ _ _) _ _ _) _) _ _ _); refine stop_here ?_))
  trivial
set_option maxHeartbeats 0 in
theorem c_m2 (y m l : Int) (ty tm tl : Tok) (tk : Tok) (h0 : 1 ≤ m ∧ m ≤ 12) : Con 24 406 [.int 2 tk, .int y ty, .int m tm, .int l tl] (PB true) := by
  have hbI := mlI_b y m
  have hst := fm7b (1 + -(Int.fdiv (-59 * (m - 1)) 2) + (y - 1) * 354 + Int.fdiv (3 + 11 * y) 30 + 1948440 - 1)
  unfold Con
  k_fill
  w_on
  intros; rename_i hret
  refine wpAny_call ?_
  k_dflt (refine' code_p ?k1 ?k2 ?k3 ?k4 ?k5 ?kA ?kF ?kK ?k6 ?k7 ?k8 ?k9 ?kB ?_ ?c2 ?c3 ?c4 ?c5; (case kA => exact rfl); (case kF => exact rfl); (case kK => assumption); (case k1 => k_asm); (case k2 => k_asm); (case k3 => k_asm); (case k4 => k_asm); (case k5 => k_asm); (case k6 => k_is); (case k7 => k_is); (case k8 => first | exact Nat.lt_of_le_of_lt (Nat.le_add_right _ _) (by assumption) | ktr_room); (case k9 => first | exact BindsTo.of_eq rfl | exact binds_K (by k_in) rfl (by k_is) rfl rfl rfl); (case c5 => decide); (case kB => exact locs rfl); (case c2 => exact rfl); (case c3 => exact rfl); (case c4 => exact rfl); k_whole; intro g' L' h' FG' F' N' B' X' T'; (try dsimp only); (try k_lift B'); (try k_fold))
  k_steps
  unfold StopHere
  k_dflt (refine' cutInt (· = mlI y m) ?lcF ?lcN ?one ?two; (case lcF => k_asm); (case lcN => k_asm))
  case one =>
    by_cases hl : Int.fmod y 30 ∈ leapIs
    all_goals (k_dflt (refine IfExp_ ?_); k_steps)
    all_goals (k_dflt (refine intR_end (by k_asm) (by first | k_asm | exact fun q hq => (by assumption : News _ _ _ (_ :: _)) q (.tail _ hq)) ?_))
    all_goals first | exact (mlI_a h0 (by assumption)).symm | exact mlI_12 hl (by assumption) | exact mlI_12' hl (by assumption) | exact (mlI_bb h0 (by assumption) (by assumption)).symm
  case two =>
    intro Y tY hY tkY eY FY NY
    subst eY
    (try k_fold)
    k_steps
    all_goals (refine hret _ [] _ _ ⟨rfl, congrArg Value.bool ?_⟩ (by k_asm) ((by assumption : ∀ tl, News _ _ _ tl → News _ _ _ (tl ++ _)) [] News.nil) (fun _ h => nomatch h))
    all_goals (first | rfl | (exfalso; law_clear; omega))
-- part H1
theorem ln_H1_1 : True := by
  k_with_none
  (k_with "execs cons" => (k_here; (try dsimp only); k_gentoks))
  (k_with "execs nil" => (k_here; (try dsimp only); k_gentoks))
  (k_with "call ref" => (k_here; k_dflt (refine' con_int (c_midnight _ _ ?p0Zq) ?k1Zq ?k2Zq ?k3Zq ?k4Zq ?k5Zq ?kKZq ?kdZq ?kuZq ?_; (case p0Zq => first | assumption | omega | l_fact | (simp_all; done) | (simp_all; omega)); (case k1Zq => k_asm); (case k2Zq => k_asm); (case k3Zq => k_asm); (case k4Zq => k_asm); (case k5Zq => k_asm); (case kKZq => first | exact rfl | assumption); (case kdZq => first | exact room_of (by assumption) (by rfl) | ktr_room); (case kuZq => first | exact units_of (by assumption) (by rfl) | ktr_units)); intro t9 h9 tk9 F9 N9; (try dsimp only); (try k_fold); walk_say "USE c_midnight"))
  (k_with "call ref" => (k_here; k_dflt (refine' con_bool (c_leapH _ _) ?k1Zq ?k2Zq ?k3Zq ?k4Zq ?k5Zq ?kKZq ?kdZq ?kuZq ?_; (case k1Zq => k_asm); (case k2Zq => k_asm); (case k3Zq => k_asm); (case k4Zq => k_asm); (case k5Zq => k_asm); (case kKZq => first | exact rfl | assumption); (case kdZq => first | exact room_of (by assumption) (by rfl) | ktr_room); (case kuZq => first | exact units_of (by assumption) (by rfl) | ktr_units)); intro h9 tk9 F9 N9; (try dsimp only); (try k_fold); walk_say "USE c_leapH"))
  (k_with "call ref" => (k_here; k_dflt (refine' con_int (c_delay1 _ _) ?k1Zq ?k2Zq ?k3Zq ?k4Zq ?k5Zq ?kKZq ?kdZq ?kuZq ?_; (case k1Zq => k_asm); (case k2Zq => k_asm); (case k3Zq => k_asm); (case k4Zq => k_asm); (case k5Zq => k_asm); (case kKZq => first | exact rfl | assumption); (case kdZq => first | exact room_of (by assumption) (by rfl) | ktr_room); (case kuZq => first | exact units_of (by assumption) (by rfl) | ktr_units)); intro t9 h9 tk9 F9 N9; (try dsimp only); (try k_fold); walk_say "USE c_delay1"))
  trivial
def delay2 (y : Int) : Int := if delay1 (y + 1) - delay1 y = 356 then 2 else if delay1 y - delay1 (y - 1) = 382 then 1 else 0
def jdH7 (y : Int) : Int := 347996 + delay1 y + delay2 y + 1 + 1
theorem delay1_nonneg {y : Int} (h : 1 ≤ y) : 0 ≤ delay1 y := by
  unfold delay1
  simp only [Int.fmod_eq_emod_of_nonneg _ (show (0 : Int) ≤ 7 by decide), Int.fdiv_eq_ediv_of_nonneg _ (show (0 : Int) ≤ 19 by decide), Int.fdiv_eq_ediv_of_nonneg _ (show (0 : Int) ≤ 25920 by decide)]
  split <;> omega
theorem delay2_nonneg (y : Int) : 0 ≤ delay2 y := by unfold delay2; (repeat' split) <;> omega
theorem jdH7_pos {y : Int} (h : 1 ≤ y) : 0 < jdH7 y := by
  have := delay1_nonneg h
  have := delay2_nonneg y
  unfold jdH7; omega
def ydH (y : Int) : Int := jdH7 (y + 1) - jdH7 y
def ymH (y : Int) : Int := if Int.fmod (y * 7 + 1) 19 < 7 then 13 else 12
def lpH (y : Int) : Bool := decide (Int.fmod (y * 7 + 1) 19 < 7)
def mlH (y m : Int) : Int := if ([2, 4, 6, 10, 13].any fun x : Int => x == m) = true then 29 else if m = 12 then (if Int.fmod (y * 7 + 1) 19 < 7 then 30 else 29) else if m = 8 then (if Int.fmod (ydH y) 10 = 5 then 30 else 29) else if m = 9 then (if Int.fmod (ydH y) 10 = 3 then 29 else 30) else 30
theorem eH1 {y m : Int} (h : ([2, 4, 6, 10, 13].any fun x : Int => x == m) = true) : 29 = mlH y m := (if_pos h).symm
theorem eH2 {y m : Int} (h : ([2, 4, 6, 10, 13].any fun x : Int => x == m) = false) (h2 : m = 12) (h3 : Int.fmod (y * 7 + 1) 19 < 7) : 30 = mlH y m := by rw [mlH, h, if_neg Bool.false_ne_true, if_pos h2, if_pos h3]
theorem eH3 {y m : Int} (h : ([2, 4, 6, 10, 13].any fun x : Int => x == m) = false) (h2 : m = 12) (h3 : ¬ Int.fmod (y * 7 + 1) 19 < 7) : 29 = mlH y m := by rw [mlH, h, if_neg Bool.false_ne_true, if_pos h2, if_neg h3]
theorem eH4 {y m : Int} (h : ([2, 4, 6, 10, 13].any fun x : Int => x == m) = false) (h2 : m ≠ 12) (h3 : m = 8) (h4 : Int.fmod (ydH y) 10 ≠ 5) : 29 = mlH y m := by rw [mlH, h, if_neg Bool.false_ne_true, if_neg h2, if_pos h3, if_neg h4]
theorem eH5 {y m : Int} (h : ([2, 4, 6, 10, 13].any fun x : Int => x == m) = false) (h2 : m ≠ 12) (h3 : m = 8) (h4 : Int.fmod (ydH y) 10 = 5) : 30 = mlH y m := by rw [mlH, h, if_neg Bool.false_ne_true, if_neg h2, if_pos h3, if_pos h4]
theorem eH6 {y m : Int} (h : ([2, 4, 6, 10, 13].any fun x : Int => x == m) = false) (h2 : m ≠ 12) (h3 : m ≠ 8) (h4 : m = 9) (h5 : Int.fmod (ydH y) 10 = 3) : 29 = mlH y m := by rw [mlH, h, if_neg Bool.false_ne_true, if_neg h2, if_neg h3, if_pos h4, if_pos h5]
theorem eH7 {y m : Int} (h : ([2, 4, 6, 10, 13].any fun x : Int => x == m) = false) (h2 : m ≠ 12) (h3 : m ≠ 8) (h4 : m = 9) (h5 : Int.fmod (ydH y) 10 ≠ 3) : 30 = mlH y m := by rw [mlH, h, if_neg Bool.false_ne_true, if_neg h2, if_neg h3, if_pos h4, if_neg h5]
theorem eH8 {y m : Int} (h : ([2, 4, 6, 10, 13].any fun x : Int => x == m) = false) (h2 : m ≠ 12) (h3 : m ≠ 8) (h4 : m ≠ 9) : 30 = mlH y m := by rw [mlH, h, if_neg Bool.false_ne_true, if_neg h2, if_neg h3, if_neg h4]
set_option maxHeartbeats 0 in
theorem c_delay2 (y : Int) (ty : Tok)  : Con 6 278 [.int y ty] (PI (delay2 y)) := by
  unfold Con
  k_fill
  w_on
  intros; rename_i hret
  refine wpAny_call ?_
  k_dflt (refine' code_p ?k1 ?k2 ?k3 ?k4 ?k5 ?kA ?kF ?kK ?k6 ?k7 ?k8 ?k9 ?kB ?_ ?c2 ?c3 ?c4 ?c5; (case kA => exact rfl); (case kF => exact rfl); (case kK => assumption); (case k1 => k_asm); (case k2 => k_asm); (case k3 => k_asm); (case k4 => k_asm); (case k5 => k_asm); (case k6 => k_is); (case k7 => k_is); (case k8 => first | exact Nat.lt_of_le_of_lt (Nat.le_add_right _ _) (by assumption) | ktr_room); (case k9 => first | exact BindsTo.of_eq rfl | exact binds_K (by k_in) rfl (by k_is) rfl rfl rfl); (case c5 => decide); (case kB => exact locs rfl); (case c2 => exact rfl); (case c3 => exact rfl); (case c4 => exact rfl); k_whole; intro g' L' h' FG' F' N' B' X' T'; (try dsimp only); (try k_lift B'); (try k_fold))
  k_steps
  all_goals (refine hret _ [] _ _ ⟨rfl, _, congrArg (Value.int · _) ?_⟩ (by k_asm) ((by assumption : ∀ tl, News _ _ _ tl → News _ _ _ (tl ++ _)) [] News.nil) (fun _ h => nomatch h))
  all_goals (first | exact (if_pos (by assumption)).symm | exact ((if_neg (by assumption)).trans (if_pos (by assumption))).symm | exact ((if_neg (by assumption)).trans (if_neg (by assumption))).symm)
theorem ln_H1_2 : True := by
  (k_with "call ref" => (k_here; k_dflt (refine' con_int (c_delay2 _ _) ?k1Zq ?k2Zq ?k3Zq ?k4Zq ?k5Zq ?kKZq ?kdZq ?kuZq ?_; (case k1Zq => k_asm); (case k2Zq => k_asm); (case k3Zq => k_asm); (case k4Zq => k_asm); (case k5Zq => k_asm); (case kKZq => first | exact rfl | assumption); (case kdZq => first | exact room_of (by assumption) (by rfl) | ktr_room); (case kuZq => first | exact units_of (by assumption) (by rfl) | ktr_units)); intro t9 h9 tk9 F9 N9; (try dsimp only); (try k_fold); walk_say "USE c_delay2"))
  trivial
set_option maxHeartbeats 0 in
theorem c_ym (y : Int) (ty : Tok)  : Con 6 264 [.int y ty] (PI (ymH y)) := by
  unfold Con
  k_fill
  w_on
  intros; rename_i hret
  refine wpAny_call ?_
  k_dflt (refine' code_p ?k1 ?k2 ?k3 ?k4 ?k5 ?kA ?kF ?kK ?k6 ?k7 ?k8 ?k9 ?kB ?_ ?c2 ?c3 ?c4 ?c5; (case kA => exact rfl); (case kF => exact rfl); (case kK => assumption); (case k1 => k_asm); (case k2 => k_asm); (case k3 => k_asm); (case k4 => k_asm); (case k5 => k_asm); (case k6 => k_is); (case k7 => k_is); (case k8 => first | exact Nat.lt_of_le_of_lt (Nat.le_add_right _ _) (by assumption) | ktr_room); (case k9 => first | exact BindsTo.of_eq rfl | exact binds_K (by k_in) rfl (by k_is) rfl rfl rfl); (case c5 => decide); (case kB => exact locs rfl); (case c2 => exact rfl); (case c3 => exact rfl); (case c4 => exact rfl); k_whole; intro g' L' h' FG' F' N' B' X' T'; (try dsimp only); (try k_lift B'); (try k_fold))
  k_steps
  all_goals (refine hret _ [] _ _ ⟨rfl, _, congrArg (Value.int · _) ?_⟩ (by k_asm) ((by assumption : ∀ tl, News _ _ _ tl → News _ _ _ (tl ++ _)) [] News.nil) (fun _ h => nomatch h))
  all_goals (law_clear; first | exact (if_pos (by assumption)).symm | exact (if_neg (by assumption)).symm)
theorem ln_H1_3 : True := by
  (k_with "call ref" => (k_here; k_dflt (refine' con_int (c_ym _ _) ?k1Zq ?k2Zq ?k3Zq ?k4Zq ?k5Zq ?kKZq ?kdZq ?kuZq ?_; (case k1Zq => k_asm); (case k2Zq => k_asm); (case k3Zq => k_asm); (case k4Zq => k_asm); (case k5Zq => k_asm); (case kKZq => first | exact rfl | assumption); (case kdZq => first | exact room_of (by assumption) (by rfl) | ktr_room); (case kuZq => first | exact units_of (by assumption) (by rfl) | ktr_units)); intro t9 h9 tk9 F9 N9; (try dsimp only); (try k_fold); walk_say "USE c_ym"))
  trivial
set_option maxHeartbeats 0 in
theorem c_jdH7 (y : Int) (ty : Tok) (tm td : Tok) (h0 : 1 ≤ y) : Con 12 306 [.int y ty, .int 7 tm, .int 1 td] (PI (jdH7 y)) := by
  have hpos : 0 < 347996 + delay1 y + delay2 y + 1 + 1 := jdH7_pos h0
  unfold Con
  k_fill
  w_on
  intros; rename_i hret
  refine wpAny_call ?_
  k_dflt (refine' code_p ?k1 ?k2 ?k3 ?k4 ?k5 ?kA ?kF ?kK ?k6 ?k7 ?k8 ?k9 ?kB ?_ ?c2 ?c3 ?c4 ?c5; (case kA => exact rfl); (case kF => exact rfl); (case kK => assumption); (case k1 => k_asm); (case k2 => k_asm); (case k3 => k_asm); (case k4 => k_asm); (case k5 => k_asm); (case k6 => k_is); (case k7 => k_is); (case k8 => first | exact Nat.lt_of_le_of_lt (Nat.le_add_right _ _) (by assumption) | ktr_room); (case k9 => first | exact BindsTo.of_eq rfl | exact binds_K (by k_in) rfl (by k_is) rfl rfl rfl); (case c5 => decide); (case kB => exact locs rfl); (case c2 => exact rfl); (case c3 => exact rfl); (case c4 => exact rfl); k_whole; intro g' L' h' FG' F' N' B' X' T'; (try dsimp only); (try k_lift B'); (try k_fold))
  k_steps
  all_goals (refine hret _ [] _ _ ⟨rfl, _, congrArg (Value.int · _) ?_⟩ (by k_asm) ((by assumption : ∀ tl, News _ _ _ tl → News _ _ _ (tl ++ _)) [] News.nil) (fun _ h => nomatch h))
  all_goals rfl
theorem ln_H1_4 : True := by
  (k_with "call ref" => (k_here; k_dflt (refine' con_int (c_jdH7 _ _ _ _ ?p0Zq) ?k1Zq ?k2Zq ?k3Zq ?k4Zq ?k5Zq ?kKZq ?kdZq ?kuZq ?_; (case p0Zq => first | assumption | omega | l_fact | (simp_all; done) | (simp_all; omega)); (case k1Zq => k_asm); (case k2Zq => k_asm); (case k3Zq => k_asm); (case k4Zq => k_asm); (case k5Zq => k_asm); (case kKZq => first | exact rfl | assumption); (case kdZq => first | exact room_of (by assumption) (by rfl) | ktr_room); (case kuZq => first | exact units_of (by assumption) (by rfl) | ktr_units)); intro t9 h9 tk9 F9 N9; (try dsimp only); (try k_fold); walk_say "USE c_jdH7"))
  trivial
set_option maxHeartbeats 0 in
theorem c_ydH (y : Int) (ty : Tok) (h0 : 1 ≤ y) : Con 16 285 [.int y ty] (PI (ydH y)) := by
  unfold Con
  k_fill
  w_on
  intros; rename_i hret
  refine wpAny_call ?_
  k_dflt (refine' code_p ?k1 ?k2 ?k3 ?k4 ?k5 ?kA ?kF ?kK ?k6 ?k7 ?k8 ?k9 ?kB ?_ ?c2 ?c3 ?c4 ?c5; (case kA => exact rfl); (case kF => exact rfl); (case kK => assumption); (case k1 => k_asm); (case k2 => k_asm); (case k3 => k_asm); (case k4 => k_asm); (case k5 => k_asm); (case k6 => k_is); (case k7 => k_is); (case k8 => first | exact Nat.lt_of_le_of_lt (Nat.le_add_right _ _) (by assumption) | ktr_room); (case k9 => first | exact BindsTo.of_eq rfl | exact binds_K (by k_in) rfl (by k_is) rfl rfl rfl); (case c5 => decide); (case kB => exact locs rfl); (case c2 => exact rfl); (case c3 => exact rfl); (case c4 => exact rfl); k_whole; intro g' L' h' FG' F' N' B' X' T'; (try dsimp only); (try k_lift B'); (try k_fold))
  k_steps
  all_goals (refine hret _ [] _ _ ⟨rfl, _, congrArg (Value.int · _) ?_⟩ (by k_asm) ((by assumption : ∀ tl, News _ _ _ tl → News _ _ _ (tl ++ _)) [] News.nil) (fun _ h => nomatch h))
  all_goals rfl
theorem ln_H1_5 : True := by
  (k_with "call ref" => (k_here; k_dflt (refine' con_int (c_ydH _ _ ?p0Zq) ?k1Zq ?k2Zq ?k3Zq ?k4Zq ?k5Zq ?kKZq ?kdZq ?kuZq ?_; (case p0Zq => first | assumption | omega | l_fact | (simp_all; done) | (simp_all; omega)); (case k1Zq => k_asm); (case k2Zq => k_asm); (case k3Zq => k_asm); (case k4Zq => k_asm); (case k5Zq => k_asm); (case kKZq => first | exact rfl | assumption); (case kdZq => first | exact room_of (by assumption) (by rfl) | ktr_room); (case kuZq => first | exact units_of (by assumption) (by rfl) | ktr_units)); intro t9 h9 tk9 F9 N9; (try dsimp only); (try k_fold); walk_say "USE c_ydH"))
  trivial
set_option maxHeartbeats 0 in
theorem c_mlH (y m : Int) (ty tm : Tok) (h0 : 1 ≤ y) (h1 : m ≤ 13) : Con 20 292 [.int y ty, .int m tm] (PI (mlH y m)) := by
  unfold Con
  k_fill
  w_on
  intros; rename_i hret
  refine wpAny_call ?_
  k_dflt (refine' code_p ?k1 ?k2 ?k3 ?k4 ?k5 ?kA ?kF ?kK ?k6 ?k7 ?k8 ?k9 ?kB ?_ ?c2 ?c3 ?c4 ?c5; (case kA => exact rfl); (case kF => exact rfl); (case kK => assumption); (case k1 => k_asm); (case k2 => k_asm); (case k3 => k_asm); (case k4 => k_asm); (case k5 => k_asm); (case k6 => k_is); (case k7 => k_is); (case k8 => first | exact Nat.lt_of_le_of_lt (Nat.le_add_right _ _) (by assumption) | ktr_room); (case k9 => first | exact BindsTo.of_eq rfl | exact binds_K (by k_in) rfl (by k_is) rfl rfl rfl); (case c5 => decide); (case kB => exact locs rfl); (case c2 => exact rfl); (case c3 => exact rfl); (case c4 => exact rfl); k_whole; intro g' L' h' FG' F' N' B' X' T'; (try dsimp only); (try k_lift B'); (try k_fold))
  k_steps
  all_goals (refine hret _ [] _ _ ⟨rfl, _, congrArg (Value.int · _) ?_⟩ (by k_asm) ((by assumption : ∀ tl, News _ _ _ tl → News _ _ _ (tl ++ _)) [] News.nil) (fun _ h => nomatch h))
  all_goals (law_clear; first | exact eH1 (by assumption) | exact eH2 (by assumption) (by assumption) (by assumption) | exact eH3 (by assumption) (by assumption) (by assumption) | exact eH4 (by assumption) (by assumption) (by assumption) (by assumption) | exact eH5 (by assumption) (by assumption) (by assumption) (by assumption) | exact eH6 (by assumption) (by assumption) (by assumption) (by assumption) (by assumption) | exact eH7 (by assumption) (by assumption) (by assumption) (by assumption) (by assumption) | exact eH8 (by assumption) (by assumption) (by assumption) (by assumption) | (exfalso; omega))
-- part H2
theorem ln_H2_1 : True := by
  k_with_none
  (k_with "execs cons" => (k_here; (try dsimp only); k_gentoks))
  (k_with "execs nil" => (k_here; (try dsimp only); k_gentoks))
  (k_with "call ref" => (k_here; k_dflt (refine' con_int (c_midnight _ _ ?p0Zq) ?k1Zq ?k2Zq ?k3Zq ?k4Zq ?k5Zq ?kKZq ?kdZq ?kuZq ?_; (case p0Zq => first | assumption | omega | l_fact | (simp_all; done) | (simp_all; omega)); (case k1Zq => k_asm); (case k2Zq => k_asm); (case k3Zq => k_asm); (case k4Zq => k_asm); (case k5Zq => k_asm); (case kKZq => first | exact rfl | assumption); (case kdZq => first | exact room_of (by assumption) (by rfl) | ktr_room); (case kuZq => first | exact units_of (by assumption) (by rfl) | ktr_units)); intro t9 h9 tk9 F9 N9; (try dsimp only); (try k_fold); walk_say "USE c_midnight"))
  (k_with "call ref" => (k_here; k_dflt (refine' con_int (c_delay1 _ _) ?k1Zq ?k2Zq ?k3Zq ?k4Zq ?k5Zq ?kKZq ?kdZq ?kuZq ?_; (case k1Zq => k_asm); (case k2Zq => k_asm); (case k3Zq => k_asm); (case k4Zq => k_asm); (case k5Zq => k_asm); (case kKZq => first | exact rfl | assumption); (case kdZq => first | exact room_of (by assumption) (by rfl) | ktr_room); (case kuZq => first | exact units_of (by assumption) (by rfl) | ktr_units)); intro t9 h9 tk9 F9 N9; (try dsimp only); (try k_fold); walk_say "USE c_delay1"))
  (k_with "call ref" => (k_here; k_dflt (refine' con_int (c_delay2 _ _) ?k1Zq ?k2Zq ?k3Zq ?k4Zq ?k5Zq ?kKZq ?kdZq ?kuZq ?_; (case k1Zq => k_asm); (case k2Zq => k_asm); (case k3Zq => k_asm); (case k4Zq => k_asm); (case k5Zq => k_asm); (case kKZq => first | exact rfl | assumption); (case kdZq => first | exact room_of (by assumption) (by rfl) | ktr_room); (case kuZq => first | exact units_of (by assumption) (by rfl) | ktr_units)); intro t9 h9 tk9 F9 N9; (try dsimp only); (try k_fold); walk_say "USE c_delay2"))
  (k_with "call ref" => (k_here; k_dflt (refine' con_int (c_ym _ _) ?k1Zq ?k2Zq ?k3Zq ?k4Zq ?k5Zq ?kKZq ?kdZq ?kuZq ?_; (case k1Zq => k_asm); (case k2Zq => k_asm); (case k3Zq => k_asm); (case k4Zq => k_asm); (case k5Zq => k_asm); (case kKZq => first | exact rfl | assumption); (case kdZq => first | exact room_of (by assumption) (by rfl) | ktr_room); (case kuZq => first | exact units_of (by assumption) (by rfl) | ktr_units)); intro t9 h9 tk9 F9 N9; (try dsimp only); (try k_fold); walk_say "USE c_ym"))
  (k_with "call ref" => (k_here; k_dflt (refine' con_int (c_mlH _ _ _ _ ?p0Zq ?p1Zq) ?k1Zq ?k2Zq ?k3Zq ?k4Zq ?k5Zq ?kKZq ?kdZq ?kuZq ?_; (case p0Zq => first | assumption | omega | l_fact | (simp_all; done) | (simp_all; omega)); (case p1Zq => first | assumption | omega | l_fact | (simp_all; done) | (simp_all; omega)); (case k1Zq => k_asm); (case k2Zq => k_asm); (case k3Zq => k_asm); (case k4Zq => k_asm); (case k5Zq => k_asm); (case kKZq => first | exact rfl | assumption); (case kdZq => first | exact room_of (by assumption) (by rfl) | ktr_room); (case kuZq => first | exact units_of (by assumption) (by rfl) | ktr_units)); intro t9 h9 tk9 F9 N9; (try dsimp only); (try k_fold); walk_say "USE c_mlH"))
  trivial
set_option maxHeartbeats 0 in
theorem c_mdH (y m : Int) (ty tm : Tok) (h0 : 1 ≤ y) (h1 : m ≤ 13) : Con 24 299 [.int y ty, .int m tm] (PI (mlH y m)) := by
  unfold Con
  k_fill
  w_on
  intros; rename_i hret
  refine wpAny_call ?_
  k_dflt (refine' code_p ?k1 ?k2 ?k3 ?k4 ?k5 ?kA ?kF ?kK ?k6 ?k7 ?k8 ?k9 ?kB ?_ ?c2 ?c3 ?c4 ?c5; (case kA => exact rfl); (case kF => exact rfl); (case kK => assumption); (case k1 => k_asm); (case k2 => k_asm); (case k3 => k_asm); (case k4 => k_asm); (case k5 => k_asm); (case k6 => k_is); (case k7 => k_is); (case k8 => first | exact Nat.lt_of_le_of_lt (Nat.le_add_right _ _) (by assumption) | ktr_room); (case k9 => first | exact BindsTo.of_eq rfl | exact binds_K (by k_in) rfl (by k_is) rfl rfl rfl); (case c5 => decide); (case kB => exact locs rfl); (case c2 => exact rfl); (case c3 => exact rfl); (case c4 => exact rfl); k_whole; intro g' L' h' FG' F' N' B' X' T'; (try dsimp only); (try k_lift B'); (try k_fold))
  k_steps
  all_goals (refine hret _ [] _ _ ⟨rfl, _, congrArg (Value.int · _) ?_⟩ (by k_asm) ((by assumption : ∀ tl, News _ _ _ tl → News _ _ _ (tl ++ _)) [] News.nil) (fun _ h => nomatch h))
  all_goals rfl

theorem ln_H2_2 : True := by
  (k_with "call ref" => (k_here; k_dflt (refine' con_int (c_mdH _ _ _ _ ?p0Zq ?p1Zq) ?k1Zq ?k2Zq ?k3Zq ?k4Zq ?k5Zq ?kKZq ?kdZq ?kuZq ?_; (case p0Zq => first | assumption | omega | l_fact | (simp_all; done) | (simp_all; omega)); (case p1Zq => first | assumption | omega | l_fact | (simp_all; done) | (simp_all; omega)); (case k1Zq => k_asm); (case k2Zq => k_asm); (case k3Zq => k_asm); (case k4Zq => k_asm); (case k5Zq => k_asm); (case kKZq => first | exact rfl | assumption); (case kdZq => first | exact room_of (by assumption) (by rfl) | ktr_room); (case kuZq => first | exact units_of (by assumption) (by rfl) | ktr_units)); intro t9 h9 tk9 F9 N9; (try dsimp only); (try k_fold); walk_say "USE c_mdH"))
  trivial
theorem mlH_b (y m : Int) : 29 ≤ mlH y m ∧ mlH y m ≤ 30 := by unfold mlH; (repeat' split) <;> omega
theorem ymH_b (y : Int) : 12 ≤ ymH y ∧ ymH y ≤ 13 := by unfold ymH; split <;> omega
theorem foldH_le (y : Int) (l : List Int) : ∀ J : Int, J ≤ List.foldl (fun a' k' => a' + mlH y k') J l := by
  induction l with
  | nil => exact fun J => Int.le_refl J
  | cons k r ih => intro J; have := ih (J + mlH y k); have := mlH_b y k; rw [List.foldl_cons]; omega
def jdHm (y m : Int) : Int := List.foldl (fun a' k' => a' + mlH y k') (List.foldl (fun a' k' => a' + mlH y k') (347996 + delay1 y + delay2 y + 1 + 1) (rangeKs 7 (ymH y + 1 - 7).toNat)) (rangeKs 1 (m - 1).toNat)
theorem jdHm_pos {y : Int} (m : Int) (h : 1 ≤ y) : 0 < jdHm y m := by
  have h1 := jdH7_pos h
  unfold jdH7 at h1
  have h2 := foldH_le y (rangeKs 7 (ymH y + 1 - 7).toNat) (347996 + delay1 y + delay2 y + 1 + 1)
  have h3 := foldH_le y (rangeKs 1 (m - 1).toNat) (List.foldl (fun a' k' => a' + mlH y k') (347996 + delay1 y + delay2 y + 1 + 1) (rangeKs 7 (ymH y + 1 - 7).toNat))
  unfold jdHm; omega
set_option maxHeartbeats 0 in
theorem c_jdHm (y m : Int) (ty tm : Tok) (td : Tok) (h0 : 1 ≤ y) (h1 : 1 ≤ m ∧ m ≤ 6) : Con 30 306 [.int y ty, .int m tm, .int 1 td] (PI (jdHm y m)) := by
  have hym := ymH_b y
  have hpos := jdHm_pos m h0
  unfold jdHm at hpos
  unfold Con
  k_fill
  w_on
  intros; rename_i hret
  refine wpAny_call ?_
  k_dflt (refine' code_p ?k1 ?k2 ?k3 ?k4 ?k5 ?kA ?kF ?kK ?k6 ?k7 ?k8 ?k9 ?kB ?_ ?c2 ?c3 ?c4 ?c5; (case kA => exact rfl); (case kF => exact rfl); (case kK => assumption); (case k1 => k_asm); (case k2 => k_asm); (case k3 => k_asm); (case k4 => k_asm); (case k5 => k_asm); (case k6 => k_is); (case k7 => k_is); (case k8 => first | exact Nat.lt_of_le_of_lt (Nat.le_add_right _ _) (by assumption) | ktr_room); (case k9 => first | exact BindsTo.of_eq rfl | exact binds_K (by k_in) rfl (by k_is) rfl rfl rfl); (case c5 => decide); (case kB => exact locs rfl); (case c2 => exact rfl); (case c3 => exact rfl); (case c4 => exact rfl); k_whole; intro g' L' h' FG' F' N' B' X' T'; (try dsimp only); (try k_lift B'); (try k_fold))
  k_steps
  all_goals (refine hret _ [] _ _ ⟨rfl, _, congrArg (Value.int · _) ?_⟩ (by k_asm) ((by assumption : ∀ tl, News _ _ _ tl → News _ _ _ (tl ++ _)) [] News.nil) (fun _ h => nomatch h))
  all_goals rfl
-- part M0H
theorem ln_M0H_1 : True := by
  k_with_none
  (k_with "execs cons" => (k_here; (try dsimp only); k_gentoks))
  (k_with "execs nil" => (k_here; (try dsimp only); k_gentoks))
  (k_with "call ref" => (k_here; k_dflt (refine' con_int (c_jwday _ _) ?k1Zq ?k2Zq ?k3Zq ?k4Zq ?k5Zq ?kKZq ?kdZq ?kuZq ?_; (case k1Zq => k_asm); (case k2Zq => k_asm); (case k3Zq => k_asm); (case k4Zq => k_asm); (case k5Zq => k_asm); (case kKZq => first | exact rfl | assumption); (case kdZq => first | exact room_of (by assumption) (by rfl) | ktr_room); (case kuZq => first | exact units_of (by assumption) (by rfl) | ktr_units)); intro t9 h9 tk9 F9 N9; (try dsimp only); (try k_fold); walk_say "USE c_jwday"))
  (k_with "call ref" => (k_here; k_dflt (refine' con_int (c_mdH _ _ _ _ ?p0Zq ?p1Zq) ?k1Zq ?k2Zq ?k3Zq ?k4Zq ?k5Zq ?kKZq ?kdZq ?kuZq ?_; (case p0Zq => first | assumption | omega | l_fact | (simp_all; done) | (simp_all; omega)); (case p1Zq => first | assumption | omega | l_fact | (simp_all; done) | (simp_all; omega)); (case k1Zq => k_asm); (case k2Zq => k_asm); (case k3Zq => k_asm); (case k4Zq => k_asm); (case k5Zq => k_asm); (case kKZq => first | exact rfl | assumption); (case kdZq => first | exact room_of (by assumption) (by rfl) | ktr_room); (case kuZq => first | exact units_of (by assumption) (by rfl) | ktr_units)); intro t9 h9 tk9 F9 N9; (try dsimp only); (try k_fold); walk_say "USE c_mdH"))
  (k_with "call ref" => (k_here; k_dflt (refine' con_int (c_jdHm _ _ _ _ _ ?p0Zq ?p1Zq) ?k1Zq ?k2Zq ?k3Zq ?k4Zq ?k5Zq ?kKZq ?kdZq ?kuZq ?_; (case p0Zq => first | assumption | omega | l_fact | (simp_all; done) | (simp_all; omega)); (case p1Zq => first | assumption | omega | l_fact | (simp_all; done) | (simp_all; omega)); (case k1Zq => k_asm); (case k2Zq => k_asm); (case k3Zq => k_asm); (case k4Zq => k_asm); (case k5Zq => k_asm); (case kKZq => first | exact rfl | assumption); (case kdZq => first | exact room_of (by assumption) (by rfl) | ktr_room); (case kuZq => first | exact units_of (by assumption) (by rfl) | ktr_units)); intro t9 h9 tk9 F9 N9; (try dsimp only); (try k_fold); walk_say "USE c_jdHm"))
  (k_with "call ref" => (k_here; k_dflt (refine' con_grid (c_help _ _ _ _ ?p0Zq ?p1Zq) ?k1Zq ?k2Zq ?k3Zq ?k4Zq ?k5Zq ?kKZq ?kdZq ?kuZq ?_; (case p0Zq => first | assumption | omega | l_fact | (simp_all; done) | (simp_all; omega)); (case p1Zq => first | assumption | omega | l_fact | (simp_all; done) | (simp_all; omega)); (case k1Zq => k_asm); (case k2Zq => k_asm); (case k3Zq => k_asm); (case k4Zq => k_asm); (case k5Zq => k_asm); (case kKZq => first | exact rfl | assumption); (case kdZq => first | exact room_of (by assumption) (by rfl) | ktr_room); (case kuZq => first | exact units_of (by assumption) (by rfl) | ktr_units)); intro a9 tl9 h9 tk9 G9 F9 N9 l9; (try dsimp only); (try k_fold); walk_say "USE c_help"))
  trivial
set_option maxHeartbeats 0 in
theorem c_mcH (y m : Int) (ty tm : Tok) (h0 : 1 ≤ y) (h1 : 1 ≤ m ∧ m ≤ 6) : Con 36 313 [.int y ty, .int m tm] (PG (gridD (Int.fmod (Int.fmod (jdHm y m) 7 + 1) 7).toNat (mlH y m : Int).toNat)) := by
  have hst := fm7b (jdHm y m)
  have hml := mlH_b y m
  unfold Con
  k_fill
  w_on
  intros; rename_i hret
  refine wpAny_call ?_
  k_dflt (refine' code_p ?k1 ?k2 ?k3 ?k4 ?k5 ?kA ?kF ?kK ?k6 ?k7 ?k8 ?k9 ?kB ?_ ?c2 ?c3 ?c4 ?c5; (case kA => exact rfl); (case kF => exact rfl); (case kK => assumption); (case k1 => k_asm); (case k2 => k_asm); (case k3 => k_asm); (case k4 => k_asm); (case k5 => k_asm); (case k6 => k_is); (case k7 => k_is); (case k8 => first | exact Nat.lt_of_le_of_lt (Nat.le_add_right _ _) (by assumption) | ktr_room); (case k9 => first | exact BindsTo.of_eq rfl | exact binds_K (by k_in) rfl (by k_is) rfl rfl rfl); (case c5 => decide); (case kB => exact locs rfl); (case c2 => exact rfl); (case c3 => exact rfl); (case c4 => exact rfl); k_whole; intro g' L' h' FG' F' N' B' X' T'; (try dsimp only); (try k_lift B'); (try k_fold))
  k_steps
  all_goals (k_dflt (refine' end_gridc hret (by assumption) ?kF ?M ?S ?kN ?N; (case kF => k_asm); (case M => assumption); (case S => assumption); (case kN => k_asm); (case N => k_asm)))
-- part PH5
theorem m5 {m : Int} (h : 1 ≤ m ∧ m ≤ 5) : m = 1 ∨ m = 2 ∨ m = 3 ∨ m = 4 ∨ m = 5 := by
  have d : ∀ k : Fin 5, (k.1 : Int) + 1 = 1 ∨ (k.1 : Int) + 1 = 2 ∨ (k.1 : Int) + 1 = 3 ∨ (k.1 : Int) + 1 = 4 ∨ (k.1 : Int) + 1 = 5 := by decide
  have e : (((m - 1).toNat : Nat) : Int) + 1 = m := by omega
  have := d ⟨(m - 1).toNat, by omega⟩
  simpa only [e] using this
theorem sizeH {y m : Int} (h : 1 ≤ m ∧ m ≤ 5) : mlH y m = ([30, 29, 30, 29, 30] : List Int).getD (m - 1).toNat 0 := by
  unfold mlH
  rcases m5 h with rfl | rfl | rfl | rfl | rfl <;> first | rfl | (simp <;> decide)
theorem getH_b {m : Int} (h : 1 ≤ m ∧ m ≤ 5) : 29 ≤ ([30, 29, 30, 29, 30] : List Int).getD (m - 1).toNat 0 ∧ ([30, 29, 30, 29, 30] : List Int).getD (m - 1).toNat 0 ≤ 30 := by
  rcases m5 h with rfl | rfl | rfl | rfl | rfl <;> decide
theorem stepH {y m : Int} (h : 1 ≤ m) : jdHm y (m + 1) = jdHm y m + mlH y m := by
  unfold jdHm
  obtain ⟨k, rfl⟩ : ∃ k : Nat, m = (k : Int) + 1 := ⟨(m - 1).toNat, by omega⟩
  rw [show ((k : Int) + 1 + 1 - 1).toNat = k + 1 by omega, show ((k : Int) + 1 - 1).toNat = k by omega]
  have e : rangeKs 1 (k + 1) = rangeKs 1 k ++ [(k : Int) + 1] := by
    unfold rangeKs
    rw [List.range_succ, List.map_append, List.map_cons, List.map_nil]
    congr 2
    omega
  rw [e, List.foldl_append, List.foldl_cons, List.foldl_nil]
theorem diffH {y m : Int} (h : 1 ≤ m ∧ m ≤ 5) : jdHm y (m + 1) - jdHm y m = ([30, 29, 30, 29, 30] : List Int).getD (m - 1).toNat 0 := by
  rw [stepH h.1, ← sizeH (y := y) h]; omega
-- part H3
theorem ln_H3_1 : True := by
  k_with_none
  (k_with "execs cons" => (k_here; (try dsimp only); k_gentoks))
  (k_with "execs nil" => (k_here; (try dsimp only); k_gentoks))
  (k_with "call ref" => (k_here; k_dflt (refine' con_int (c_mlH _ _ _ _ ?p0Zq ?p1Zq) ?k1Zq ?k2Zq ?k3Zq ?k4Zq ?k5Zq ?kKZq ?kdZq ?kuZq ?_; (case p0Zq => first | assumption | omega | l_fact | (simp_all; done) | (simp_all; omega)); (case p1Zq => first | assumption | omega | l_fact | (simp_all; done) | (simp_all; omega)); (case k1Zq => k_asm); (case k2Zq => k_asm); (case k3Zq => k_asm); (case k4Zq => k_asm); (case k5Zq => k_asm); (case kKZq => first | exact rfl | assumption); (case kdZq => first | exact room_of (by assumption) (by rfl) | ktr_room); (case kuZq => first | exact units_of (by assumption) (by rfl) | ktr_units)); intro t9 h9 tk9 F9 N9; (try dsimp only); (try k_fold); walk_say "USE c_mlH"))
  (k_with "call ref" => (k_here; k_dflt (refine' con_int (c_jdHm _ _ _ _ _ ?p0Zq ?p1Zq) ?k1Zq ?k2Zq ?k3Zq ?k4Zq ?k5Zq ?kKZq ?kdZq ?kuZq ?_; (case p0Zq => first | assumption | omega | l_fact | (simp_all; done) | (simp_all; omega)); (case p1Zq => first | assumption | omega | l_fact | (simp_all; done) | (simp_all; omega)); (case k1Zq => k_asm); (case k2Zq => k_asm); (case k3Zq => k_asm); (case k4Zq => k_asm); (case k5Zq => k_asm); (case kKZq => first | exact rfl | assumption); (case kdZq => first | exact room_of (by assumption) (by rfl) | ktr_room); (case kuZq => first | exact units_of (by assumption) (by rfl) | ktr_units)); intro t9 h9 tk9 F9 N9; (try dsimp only); (try k_fold); walk_say "USE c_jdHm"))
  (k_with "call ref" => (k_here; k_dflt (refine' con_grid (c_mcH _ _ _ _ ?p0Zq ?p1Zq) ?k1Zq ?k2Zq ?k3Zq ?k4Zq ?k5Zq ?kKZq ?kdZq ?kuZq ?_; (case p0Zq => first | assumption | omega | l_fact | (simp_all; done) | (simp_all; omega)); (case p1Zq => first | assumption | omega | l_fact | (simp_all; done) | (simp_all; omega)); (case k1Zq => k_asm); (case k2Zq => k_asm); (case k3Zq => k_asm); (case k4Zq => k_asm); (case k5Zq => k_asm); (case kKZq => first | exact rfl | assumption); (case kdZq => first | exact room_of (by assumption) (by rfl) | ktr_room); (case kuZq => first | exact units_of (by assumption) (by rfl) | ktr_units)); intro a9 tl9 h9 tk9 G9 F9 N9 l9; (try dsimp only); (try k_fold); walk_say "USE c_mcH"))
  (k_with "call ref" => (k_here; k_dflt (refine' con_grid (c_rows _ _ _ _ ?p0Zq ?p1Zq) ?k1Zq ?k2Zq ?k3Zq ?k4Zq ?k5Zq ?kKZq ?kdZq ?kuZq ?_; (case p0Zq => first | assumption | omega | l_fact | (simp_all; done) | (simp_all; omega)); (case p1Zq => first | assumption | omega | l_fact | (simp_all; done) | (simp_all; omega)); (case k1Zq => k_asm); (case k2Zq => k_asm); (case k3Zq => k_asm); (case k4Zq => k_asm); (case k5Zq => k_asm); (case kKZq => first | exact rfl | assumption); (case kdZq => first | exact room_of (by assumption) (by rfl) | ktr_room); (case kuZq => first | exact units_of (by assumption) (by rfl) | ktr_units)); intro a9 tl9 h9 tk9 G9 F9 N9 l9; (try dsimp only); (try k_fold); walk_say "USE c_rows"))
  (k_with "subscriptTail" => (k_here; (with_reducible show wpAny _ _ (subscriptTail _ _ (Value.ref _) (Value.int _ _)) _ _ _); k_dflt (refine' item_made ?NZq ?mZq ?iZq ?aZq ?bZq ?lZq ?_ ?sZq; (case NZq => k_asm); (case mZq => k_mem); (case iZq => first | assumption | repeat constructor); (case aZq => omega); (case bZq => (simp only [szL, List.length_cons, List.length_nil]; omega)); (case lZq => exact Nat.le_of_ble_eq_true rfl); (case sZq => with_unfolding_all rfl); k_whole; intro t9); walk_say "ITEM"))
  (k_with "subscriptTail" => (k_here; (with_reducible show wpAny _ _ (subscriptTail _ (Expr.Slice _ _ _ _) (Value.ref _) (Value.ref _)) _ _ _); k_dflt (refine' slice_made_upto2 ?FZq ?NZq ?mZq ?iZq ?aZq ?bZq ?lZq ?_ ?sZq; (case FZq => k_asm); (case NZq => k_asm); (case mZq => k_mem); (case iZq => assumption); (case aZq => omega); (case bZq => (simp only [szL, List.length_cons, List.length_nil]; omega)); (case lZq => exact Nat.le_of_ble_eq_true rfl); (case sZq => with_unfolding_all rfl); k_whole; intro D ws h' F' N' l1 i1; (try k_lt l1)); walk_say "SLICE"))
  (k_with "compareOp Eq ref ref" => (k_here; k_dflt (refine' grid_eq2 ?NZq ?raZq ?haZq ?rbZq ?hbZq ?hdZq (gridD_ok _ _) ?huZq ?_; (case NZq => k_asm); (case raZq => assumption); (case rbZq => assumption); (case hdZq => first | rfl | exact grid_congr (by assumption) (by assumption) | (congr 2; done) | (congr 2 <;> law_clear <;> omega)); (case haZq => exact fun p hp => by first | exact List.mem_append_left _ hp | exact List.mem_append_right _ (List.mem_append_left _ hp)); (case hbZq => exact fun p hp => by first | exact List.mem_append_left _ hp | exact List.mem_append_right _ (List.mem_append_left _ hp)); (case huZq => first | ke_room | ktr_units); k_whole); walk_say "GRIDS"))
  trivial
set_option maxHeartbeats 0 in
theorem c_heb (y m : Int) (ty tm : Tok) (h0 : 1 ≤ y) (h1 : 1 ≤ m ∧ m ≤ 5) : Con 44 413 [.int y ty, .int m tm] (PB (true)) := by
  have hst := fm7b (jdHm y m)
  have hS := sizeH (y := y) h1
  have hD := diffH (y := y) h1
  have hb := getH_b h1
  unfold Con
  k_fill
  w_on
  intros; rename_i hret
  refine wpAny_call ?_
  k_dflt (refine' code_p ?k1 ?k2 ?k3 ?k4 ?k5 ?kA ?kF ?kK ?k6 ?k7 ?k8 ?k9 ?kB ?_ ?c2 ?c3 ?c4 ?c5; (case kA => exact rfl); (case kF => exact rfl); (case kK => assumption); (case k1 => k_asm); (case k2 => k_asm); (case k3 => k_asm); (case k4 => k_asm); (case k5 => k_asm); (case k6 => k_is); (case k7 => k_is); (case k8 => first | exact Nat.lt_of_le_of_lt (Nat.le_add_right _ _) (by assumption) | ktr_room); (case k9 => first | exact BindsTo.of_eq rfl | exact binds_K (by k_in) rfl (by k_is) rfl rfl rfl); (case c5 => decide); (case kB => exact locs rfl); (case c2 => exact rfl); (case c3 => exact rfl); (case c4 => exact rfl); k_whole; intro g' L' h' FG' F' N' B' X' T'; (try dsimp only); (try k_lift B'); (try k_fold))
  k_steps
  all_goals (refine hret _ [] _ _ ⟨rfl, congrArg Value.bool ?_⟩ (by k_asm) ((by assumption : ∀ tl, News _ _ _ tl → News _ _ _ (tl ++ _)) [] News.nil) (fun _ h => nomatch h))
  all_goals (first | rfl | (exfalso; law_clear; omega))
-- part PB2
theorem seq_list_iadd : seqSlot? (.type "list") (dunderI "add") = pure (some (.builtin "list.__iadd__")) := PySem.seqSlot_of PySem.F.slot_list_iadd.lookup (by decide +kernel)
section
variable {prog : Program} {w : World} {A : Around} {E : Value → Shared → Prop} {s : Shared} {h₀ : Heap} {L : Addr} {m : Str → Option Value} {news news' : List (Addr × Obj)} {Q : Value → Shared → Prop}
theorem inplace_list {a b : Value} (ha : s.TypeIs a "list") (hb : s.TypeIs b "list")
    (hc : wpAny (model prog w) A (call (.builtin "list.__iadd__") [a, b]) Q E s) : wpAny (model prog w) A (inplaceOp .Add a b) Q E s := by
  unfold inplaceOp
  refine wpAny_holding ?_
  have hfi : fillsInplaceSlot (.type "list") "add" (Operator.Add == .Add) = pure false := by
    unfold fillsInplaceSlot
    show (typeLookup (.type "list") (dunderI "add") >>= fun fi => pure (fi.isSome && !isSeqSlot fi)) = pure false
    rw [PySem.F.slot_list_iadd.lookup]
    show (pure ((some (Value.builtin "list.__iadd__")).isSome && !isSeqSlot (some (Value.builtin "list.__iadd__"))) : Sem Bool) = pure false
    rw [show isSeqSlot (some (Value.builtin "list.__iadd__")) = true by decide +kernel]
    rfl
  refine wpAny_bind (wpAny_typeOf ha (wpAny_bind (wpAny_of_eq hfi ?_)))
  show wpAny _ A (if false = true then _ else _) Q E s
  rw [if_neg Bool.false_ne_true]
  refine wpAny_bind (wpAny_binaryOp1_none (nm := "add") ha hb noFill_list_add ?_)
  refine wpAny_bind (wpAny_of_eq seq_list_iadd ?_)
  exact wpAny_bind (wpAny_rule hc)
theorem iadd_made {D b : Addr} {us ws : List Value} {n n2 : Nat} (F : Fr h₀ L s.heap m) (N : News h₀ L s.heap news) (hb : (b, listOf ws.toArray n2) ∈ news) (hne : ws.length ≠ 0) (hz : us.length + ws.length ≤ 1000)
    (U : Upd D (listOf us.toArray n) (listOf (us ++ ws).toArray (n + 1)) news news')
    (h : ∀ h', Fr h₀ L h' m → News h₀ L h' news' → Q (.ref D) { s with heap := h' }) : wpAny (model prog w) A (inplaceOp .Add (.ref D) (.ref b)) Q E s := by
  obtain ⟨pre, post, rfl, rfl, a, c⟩ := U.split
  have z := N (D, listOf us.toArray n) (List.mem_append.mpr (.inr (.head _)))
  refine inplace_list ⟨_, z.1, rfl⟩ ⟨_, (N _ hb).1, rfl⟩ ?_
  refine call_meets PySem.F.slot_list_iadd ⟨_, z.1, rfl⟩ PySem.F.entry_list_iadd (PySem.F.args_list_iadd_2 _ _) (PySem.AutoSeq1.list___iadd___list_list_0 D us.toArray n b ws.toArray n2 ?_ (by rw [List.size_toArray, sizeLine_eq]; omega) (by rw [List.size_toArray, List.size_toArray, sizeLine_eq]; omega)) ⟨z.1, (N _ hb).1, h _ (F.change (Heap.SameBut.update ..) z.2.1 z.2.2) (kl_turn _ N a c ?_ ?_)⟩
  · exact extend_door (by rw [List.size_toArray, List.size_toArray, sizeLine_eq]; omega)
  · apply Array.toList_inj.mp
    simp
  · simp
    intro q
    exact hne (by rw [q]; rfl)
end
-- part S1
theorem ln_S1_1 : True := by
  k_with_none
  (k_with "execs cons" => (k_here; (try dsimp only); k_gentoks))
  (k_with "execs nil" => (k_here; (try dsimp only); k_gentoks))
  (k_with "call ref" => (k_here; k_dflt (refine' con_int (c_wb _ _ _ _) ?k1Zq ?k2Zq ?k3Zq ?k4Zq ?k5Zq ?kKZq ?kdZq ?kuZq ?_; (case k1Zq => k_asm); (case k2Zq => k_asm); (case k3Zq => k_asm); (case k4Zq => k_asm); (case k5Zq => k_asm); (case kKZq => first | exact rfl | assumption); (case kdZq => first | exact room_of (by assumption) (by rfl) | ktr_room); (case kuZq => first | exact units_of (by assumption) (by rfl) | ktr_units)); intro t9 h9 tk9 F9 N9; (try dsimp only); (try k_fold); walk_say "USE c_wb"))
  (k_with "call ref" => (k_here; k_dflt (refine' con_int (c_near _ _ _ _) ?k1Zq ?k2Zq ?k3Zq ?k4Zq ?k5Zq ?kKZq ?kdZq ?kuZq ?_; (case k1Zq => k_asm); (case k2Zq => k_asm); (case k3Zq => k_asm); (case k4Zq => k_asm); (case k5Zq => k_asm); (case kKZq => first | exact rfl | assumption); (case kdZq => first | exact room_of (by assumption) (by rfl) | ktr_room); (case kuZq => first | exact units_of (by assumption) (by rfl) | ktr_units)); intro t9 h9 tk9 F9 N9; (try dsimp only); (try k_fold); walk_say "USE c_near"))
  (k_with "call ref" => (k_here; k_dflt (refine' con_int (c_next _ _ _ _) ?k1Zq ?k2Zq ?k3Zq ?k4Zq ?k5Zq ?kKZq ?kdZq ?kuZq ?_; (case k1Zq => k_asm); (case k2Zq => k_asm); (case k3Zq => k_asm); (case k4Zq => k_asm); (case k5Zq => k_asm); (case kKZq => first | exact rfl | assumption); (case kdZq => first | exact room_of (by assumption) (by rfl) | ktr_room); (case kuZq => first | exact units_of (by assumption) (by rfl) | ktr_units)); intro t9 h9 tk9 F9 N9; (try dsimp only); (try k_fold); walk_say "USE c_next"))
  (k_with "call ref" => (k_here; k_dflt (refine' con_int (c_nextc _ _ _ _) ?k1Zq ?k2Zq ?k3Zq ?k4Zq ?k5Zq ?kKZq ?kdZq ?kuZq ?_; (case k1Zq => k_asm); (case k2Zq => k_asm); (case k3Zq => k_asm); (case k4Zq => k_asm); (case k5Zq => k_asm); (case kKZq => first | exact rfl | assumption); (case kdZq => first | exact room_of (by assumption) (by rfl) | ktr_room); (case kuZq => first | exact units_of (by assumption) (by rfl) | ktr_units)); intro t9 h9 tk9 F9 N9; (try dsimp only); (try k_fold); walk_say "USE c_nextc"))
  (k_with "call ref" => (k_here; k_dflt (refine' con_int (c_prev _ _ _ _) ?k1Zq ?k2Zq ?k3Zq ?k4Zq ?k5Zq ?kKZq ?kdZq ?kuZq ?_; (case k1Zq => k_asm); (case k2Zq => k_asm); (case k3Zq => k_asm); (case k4Zq => k_asm); (case k5Zq => k_asm); (case kKZq => first | exact rfl | assumption); (case kdZq => first | exact room_of (by assumption) (by rfl) | ktr_room); (case kuZq => first | exact units_of (by assumption) (by rfl) | ktr_units)); intro t9 h9 tk9 F9 N9; (try dsimp only); (try k_fold); walk_say "USE c_prev"))
  (k_with "call ref" => (k_here; k_dflt (refine' con_int (c_prevc _ _ _ _) ?k1Zq ?k2Zq ?k3Zq ?k4Zq ?k5Zq ?kKZq ?kdZq ?kuZq ?_; (case k1Zq => k_asm); (case k2Zq => k_asm); (case k3Zq => k_asm); (case k4Zq => k_asm); (case k5Zq => k_asm); (case kKZq => first | exact rfl | assumption); (case kdZq => first | exact room_of (by assumption) (by rfl) | ktr_room); (case kuZq => first | exact units_of (by assumption) (by rfl) | ktr_units)); intro t9 h9 tk9 F9 N9; (try dsimp only); (try k_fold); walk_say "USE c_prevc"))
  (k_with "call ref" => (k_here; k_dflt (refine' con_int (c_nwk _ _ _ _ _ _) ?k1Zq ?k2Zq ?k3Zq ?k4Zq ?k5Zq ?kKZq ?kdZq ?kuZq ?_; (case k1Zq => k_asm); (case k2Zq => k_asm); (case k3Zq => k_asm); (case k4Zq => k_asm); (case k5Zq => k_asm); (case kKZq => first | exact rfl | assumption); (case kdZq => first | exact room_of (by assumption) (by rfl) | ktr_room); (case kuZq => first | exact units_of (by assumption) (by rfl) | ktr_units)); intro t9 h9 tk9 F9 N9; (try dsimp only); (try k_fold); walk_say "USE c_nwk"))
  (k_with "eval ListComp" => (k_here; k_dflt (refine LCt.ListComp_T (F₀ := by k_asm) (by with_unfolding_all rfl) (by decide) (by rfl) (by decide) (by rfl) ?_); walk_say "COMP"))
  (k_with "CompSrcT" => (k_here; (with_reducible show LCt.CompSrcT _ _ _ _ _ _ _ (Expr.Compare (Expr.BinOp (Expr.BinOp _ Operator.Sub _ _) _ _ _) _ _ _) _ _ _ _ _ _ _); k_dflt (refine LCt.CompSrcT.range (by rfl) (by k_asm) (by k_asm) (by assumption) (by exact small_one (by omega) (by omega) (by omega) (by omega)) (by exact rangeSize_nat _ _) (by first | exact Nat.le_of_ble_eq_true rfl | (rw [PySem.sizeLine_eq]; omega)) ?_; intro g'; refine rest_sub (by rfl) (by rfl) (by k_mem) (by k_asm) (by k_mem) (by k_asm) (fun _ => by rfl) (fun _ => by rfl) (fun _ => by rfl) (fun _ => by rfl) trivial (fun us hi9 => ?_); (first | (have hi8 := ints_back (by assumption) (by rfl) (by rfl) hi9) | (have hi8 := ints_before (by assumption) (by rfl) (by rfl) hi9)); clear hi9); walk_say "COMP TESTED"))
  (k_with "CompSrcT" => (k_here; (with_reducible show LCt.CompSrcT _ _ _ _ _ _ _ (Expr.Compare (Expr.BinOp (Expr.BinOp _ Operator.Add _ _) _ _ _) _ _ _) _ _ _ _ _ _ _); k_dflt (refine LCt.CompSrcT.range (by rfl) (by k_asm) (by k_asm) (by assumption) (by exact small_one (by omega) (by omega) (by omega) (by omega)) (by exact rangeSize_nat _ _) (by first | exact Nat.le_of_ble_eq_true rfl | (rw [PySem.sizeLine_eq]; omega)) ?_; intro g'; refine rest_add (by rfl) (by rfl) (by k_mem) (by k_asm) (by k_mem) (by k_asm) (fun _ => by rfl) (fun _ => by rfl) (fun _ => by rfl) (fun _ => by rfl) trivial (fun us hi9 => ?_); (first | (have hi8 := ints_on (by assumption) (by rfl) (by rfl) hi9) | (have hi8 := ints_behind (by assumption) (by rfl) (by rfl) hi9) | (have hi8 := ints_near (by assumption) (by rfl) (by rfl) hi9)); clear hi9); walk_say "COMP TESTED"))
  (k_with "subscriptTail" => (k_here; (with_reducible show wpAny _ _ (subscriptTail _ _ (Value.ref _) (Value.int _ _)) _ _ _); k_dflt (refine' item_made ?NZq ?mZq ?iZq ?aZq ?bZq ?lZq ?_ ?sZq; (case NZq => k_asm); (case mZq => k_mem); (case iZq => assumption); (case aZq => decide); (case bZq => decide); (case lZq => exact Nat.le_of_ble_eq_true rfl); (case sZq => with_unfolding_all rfl); k_whole; intro t9); (try simp only [List.getD_cons_zero, Int.toNat_zero]); walk_say "ITEM"))
  (k_with "inplaceOp Add ref ref" => (k_here; k_dflt (refine' iadd_made ?FZq ?NZq ?mZq ?eZq ?zZq ?UZq ?_; (case FZq => k_asm); (case NZq => k_asm); (case mZq => k_mem); (case UZq => k_upd); (case eZq => exact Nat.succ_ne_zero _); (case zZq => exact Nat.le_of_ble_eq_true rfl); k_whole; intro h' F' N'; (simp only [List.cons_append, List.nil_append] at N')); walk_say "IADD"))
  (k_with "eval Subscript" => (k_here; (fail_if_success (fail_if_success (have mk9 : GoMark := by with_reducible assumption))); (with_reducible show wpAny _ _ (eval (Expr.Subscript (Expr.ListComp _ _ _ _) _ _) _) _ _ _); refine stop_here ?_))
  trivial
set_option maxHeartbeats 0 in
theorem c_search (w j k : Int) (tw tj tk : Tok) (h0 : 0 ≤ w ∧ w ≤ 6) (h1 : 0 ≤ j ∧ j < 1000000000000) (h2 : -100 ≤ k ∧ k ≤ 99) : Con 24 418 [.int w tw, .int j tj, .int k tk] (PB (true)) := by
  have hmk := goMark
  unfold Con
  k_fill
  w_on
  intros; rename_i hret
  refine wpAny_call ?_
  k_dflt (refine' code_pC ?k1 ?k2 ?k3 ?k4 ?k5 ?kA ?kF ?kK ?k6 ?k7 ?k8 ?k9 ?kB ?kD ?_ ?c2 ?c3 ?c4; (case kA => exact rfl); (case kF => exact rfl); (case kK => assumption); (case k1 => k_asm); (case k2 => k_asm); (case k3 => k_asm); (case k4 => k_asm); (case k5 => k_asm); (case k6 => k_is); (case k7 => k_is); (case k8 => first | exact Nat.lt_of_le_of_lt (Nat.le_add_right _ _) (by assumption) | ktr_room); (case k9 => first | exact BindsTo.of_eq rfl | exact binds_K (by k_in) rfl (by k_is) rfl rfl rfl); (case kB => exact rfl); (case kD => decide +kernel); (case c2 => exact rfl); (case c3 => exact rfl); (case c4 => exact rfl); k_whole; intro g' L' h' tk' cells' FG' F' N' Y' B' X' T'; k_cells Y'; (try simp only [List.cons_append, List.nil_append] at N'); (try dsimp only); (try k_lift B'); (try k_fold))
  k_steps
  unfold StopHere
  k_dflt (refine' cutInt (· = wb w j) ?c0F ?c0N ?c0a ?c0b; (case c0F => k_asm); (case c0N => k_asm))
  case c0a =>
    clear hmk
    k_steps
    all_goals (k_dflt (refine intR_end (by k_asm) (by first | k_asm | exact fun q hq => (by assumption : News _ _ _ (_ :: _)) q (.tail _ hq) | exact fun q hq => (by assumption : News _ _ _ (_ :: _ :: _)) q (.tail _ (.tail _ hq)) | exact fun q hq => (by assumption : News _ _ _ (_ :: _ :: _ :: _)) q (.tail _ (.tail _ (.tail _ hq)))) rfl))
  case c0b =>
    intro Y0 tY0 hY0 tkY0 eY0 FY0 NY0
    subst eY0
    (try k_fold)
    k_steps
    unfold StopHere
    k_dflt (refine' cutInt (· = wb w (j + 6)) ?c1F ?c1N ?c1a ?c1b; (case c1F => k_asm); (case c1N => k_asm))
    case c1a =>
      clear hmk
      k_steps
      all_goals (k_dflt (refine intR_end (by k_asm) (by first | k_asm | exact fun q hq => (by assumption : News _ _ _ (_ :: _)) q (.tail _ hq) | exact fun q hq => (by assumption : News _ _ _ (_ :: _ :: _)) q (.tail _ (.tail _ hq)) | exact fun q hq => (by assumption : News _ _ _ (_ :: _ :: _ :: _)) q (.tail _ (.tail _ (.tail _ hq)))) rfl))
    case c1b =>
      intro Y1 tY1 hY1 tkY1 eY1 FY1 NY1
      subst eY1
      (try k_fold)
      k_steps
      unfold StopHere
      k_dflt (refine' cutInt (· = wb w (j + -1)) ?c2F ?c2N ?c2a ?c2b; (case c2F => k_asm); (case c2N => k_asm))
      case c2a =>
        clear hmk
        k_steps
        all_goals (k_dflt (refine intR_end (by k_asm) (by first | k_asm | exact fun q hq => (by assumption : News _ _ _ (_ :: _)) q (.tail _ hq) | exact fun q hq => (by assumption : News _ _ _ (_ :: _ :: _)) q (.tail _ (.tail _ hq)) | exact fun q hq => (by assumption : News _ _ _ (_ :: _ :: _ :: _)) q (.tail _ (.tail _ (.tail _ hq)))) rfl))
      case c2b =>
        intro Y2 tY2 hY2 tkY2 eY2 FY2 NY2
        subst eY2
        (try k_fold)
        k_steps
        unfold StopHere
        k_dflt (refine' cutInt (· = wb w (j + 7)) ?c3F ?c3N ?c3a ?c3b; (case c3F => k_asm); (case c3N => k_asm))
        case c3a =>
          clear hmk
          k_steps
          all_goals (k_dflt (refine intR_end (by k_asm) (by first | k_asm | exact fun q hq => (by assumption : News _ _ _ (_ :: _)) q (.tail _ hq) | exact fun q hq => (by assumption : News _ _ _ (_ :: _ :: _)) q (.tail _ (.tail _ hq)) | exact fun q hq => (by assumption : News _ _ _ (_ :: _ :: _ :: _)) q (.tail _ (.tail _ (.tail _ hq)))) rfl))
        case c3b =>
          intro Y3 tY3 hY3 tkY3 eY3 FY3 NY3
          subst eY3
          (try k_fold)
          k_steps
          unfold StopHere
          k_dflt (refine' cutInt (· = wb w (j + 3)) ?c4F ?c4N ?c4a ?c4b; (case c4F => k_asm); (case c4N => k_asm))
          case c4a =>
            clear hmk
            k_steps
            all_goals (k_dflt (refine intR_end (by k_asm) (by first | k_asm | exact fun q hq => (by assumption : News _ _ _ (_ :: _)) q (.tail _ hq) | exact fun q hq => (by assumption : News _ _ _ (_ :: _ :: _)) q (.tail _ (.tail _ hq)) | exact fun q hq => (by assumption : News _ _ _ (_ :: _ :: _ :: _)) q (.tail _ (.tail _ (.tail _ hq)))) rfl))
          case c4b =>
            intro Y4 tY4 hY4 tkY4 eY4 FY4 NY4
            subst eY4
            (try k_fold)
            clear hmk
            k_steps
            all_goals (refine hret _ [] _ _ ⟨rfl, congrArg Value.bool ?_⟩ (by k_asm) ((by assumption : ∀ tl, News _ _ _ tl → News _ _ _ (tl ++ _)) [] News.nil) (fun _ h => nomatch h))
            all_goals (law_clear; first | exact nwk_a (by assumption) | exact nwk_b (by assumption) | exact absurd (Eq.refl _) (by assumption))
-- part M3_0
theorem ln_M3_0_1 : True := by
  k_with_none
  (k_with "execs cons" => (k_here; (try dsimp only); k_gentoks))
  (k_with "execs nil" => (k_here; (try dsimp only); k_gentoks))
  (k_with "call ref" => (k_here; k_dflt (refine' con_bool (c_lawlong _ _) ?k1Zq ?k2Zq ?k3Zq ?k4Zq ?k5Zq ?kKZq ?kdZq ?kuZq ?_; (case k1Zq => k_asm); (case k2Zq => k_asm); (case k3Zq => k_asm); (case k4Zq => k_asm); (case k5Zq => k_asm); (case kKZq => first | exact rfl | assumption); (case kdZq => first | exact room_of (by assumption) (by rfl) | ktr_room); (case kuZq => first | exact units_of (by assumption) (by rfl) | ktr_units)); intro h9 tk9 F9 N9; (try dsimp only); (try k_fold); walk_say "USE c_lawlong"))
  (k_with "call ref" => (k_here; k_dflt (refine' con_int (c_jdG _ _ _ _ _ _ ?p0Zq) ?k1Zq ?k2Zq ?k3Zq ?k4Zq ?k5Zq ?kKZq ?kdZq ?kuZq ?_; (case p0Zq => first | assumption | omega | l_fact | (simp_all; done) | (simp_all; omega)); (case k1Zq => k_asm); (case k2Zq => k_asm); (case k3Zq => k_asm); (case k4Zq => k_asm); (case k5Zq => k_asm); (case kKZq => first | exact rfl | assumption); (case kdZq => first | exact room_of (by assumption) (by rfl) | ktr_room); (case kuZq => first | exact units_of (by assumption) (by rfl) | ktr_units)); intro t9 h9 tk9 F9 N9; (try dsimp only); (try k_fold); walk_say "USE c_jdG"))
  (k_with "call ref" => (k_here; k_dflt (refine' con_int (c_mlG _ _ _ _ ?p0Zq) ?k1Zq ?k2Zq ?k3Zq ?k4Zq ?k5Zq ?kKZq ?kdZq ?kuZq ?_; (case p0Zq => first | assumption | omega | l_fact | (simp_all; done) | (simp_all; omega)); (case k1Zq => k_asm); (case k2Zq => k_asm); (case k3Zq => k_asm); (case k4Zq => k_asm); (case k5Zq => k_asm); (case kKZq => first | exact rfl | assumption); (case kdZq => first | exact room_of (by assumption) (by rfl) | ktr_room); (case kuZq => first | exact units_of (by assumption) (by rfl) | ktr_units)); intro t9 h9 tk9 F9 N9; (try dsimp only); (try k_fold); walk_say "USE c_mlG"))
  (k_with "call ref" => (k_here; k_dflt (refine' con_int (c_jan _ _) ?k1Zq ?k2Zq ?k3Zq ?k4Zq ?k5Zq ?kKZq ?kdZq ?kuZq ?_; (case k1Zq => k_asm); (case k2Zq => k_asm); (case k3Zq => k_asm); (case k4Zq => k_asm); (case k5Zq => k_asm); (case kKZq => first | exact rfl | assumption); (case kdZq => first | exact room_of (by assumption) (by rfl) | ktr_room); (case kuZq => first | exact units_of (by assumption) (by rfl) | ktr_units)); intro t9 h9 tk9 F9 N9; (try dsimp only); (try k_fold); walk_say "USE c_jan"))
  (k_with "call ref" => (k_here; k_dflt (refine' con_grid (c_mcG _ _ _ _ ?p0Zq) ?k1Zq ?k2Zq ?k3Zq ?k4Zq ?k5Zq ?kKZq ?kdZq ?kuZq ?_; (case p0Zq => first | assumption | omega | l_fact | (simp_all; done) | (simp_all; omega)); (case k1Zq => k_asm); (case k2Zq => k_asm); (case k3Zq => k_asm); (case k4Zq => k_asm); (case k5Zq => k_asm); (case kKZq => first | exact rfl | assumption); (case kdZq => first | exact room_of (by assumption) (by rfl) | ktr_room); (case kuZq => first | exact units_of (by assumption) (by rfl) | ktr_units)); intro a9 tl9 h9 tk9 G9 F9 N9 l9; (try dsimp only); (try k_fold); walk_say "USE c_mcG"))
  (k_with "call ref" => (k_here; k_dflt (refine' con_grid (c_rows _ _ _ _ ?p0Zq ?p1Zq) ?k1Zq ?k2Zq ?k3Zq ?k4Zq ?k5Zq ?kKZq ?kdZq ?kuZq ?_; (case p0Zq => first | assumption | omega | l_fact | (simp_all; done) | (simp_all; omega)); (case p1Zq => first | assumption | omega | l_fact | (simp_all; done) | (simp_all; omega)); (case k1Zq => k_asm); (case k2Zq => k_asm); (case k3Zq => k_asm); (case k4Zq => k_asm); (case k5Zq => k_asm); (case kKZq => first | exact rfl | assumption); (case kdZq => first | exact room_of (by assumption) (by rfl) | ktr_room); (case kuZq => first | exact units_of (by assumption) (by rfl) | ktr_units)); intro a9 tl9 h9 tk9 G9 F9 N9 l9; (try dsimp only); (try k_fold); walk_say "USE c_rows"))
  (k_with "call ref" => (k_here; k_dflt (refine' con_list (c_sizes _) ?k1Zq ?k2Zq ?k3Zq ?k4Zq ?k5Zq ?kKZq ?kdZq ?kuZq ?_; (case k1Zq => k_asm); (case k2Zq => k_asm); (case k3Zq => k_asm); (case k4Zq => k_asm); (case k5Zq => k_asm); (case kKZq => first | exact rfl | assumption); (case kdZq => first | exact room_of (by assumption) (by rfl) | ktr_room); (case kuZq => first | exact units_of (by assumption) (by rfl) | ktr_units)); intro D9 us9 n9 h9 tk9 I9 F9 N9 l9; (try dsimp only); (try k_fold); walk_say "USE c_sizes"))
  (k_with "subscriptTail" => (k_here; (with_reducible show wpAny _ _ (subscriptTail _ _ (Value.ref _) (Value.int _ _)) _ _ _); k_dflt (refine' item_made ?NZq ?mZq ?iZq ?aZq ?bZq ?lZq ?_ ?sZq; (case NZq => k_asm); (case mZq => k_mem); (case iZq => assumption); (case aZq => omega); (case bZq => (simp only [szL, List.length_cons, List.length_nil]; omega)); (case lZq => exact Nat.le_of_ble_eq_true rfl); (case sZq => with_unfolding_all rfl); k_whole; intro t9); walk_say "ITEM"))
  (k_with "subscriptTail" => (k_here; (with_reducible show wpAny _ _ (subscriptTail _ (Expr.Slice _ _ _ _) (Value.ref _) (Value.ref _)) _ _ _); k_dflt (refine' slice_made_upto2 ?FZq ?NZq ?mZq ?iZq ?aZq ?bZq ?lZq ?_ ?sZq; (case FZq => k_asm); (case NZq => k_asm); (case mZq => k_mem); (case iZq => assumption); (case aZq => omega); (case bZq => (simp only [szL, List.length_cons, List.length_nil]; omega)); (case lZq => exact Nat.le_of_ble_eq_true rfl); (case sZq => with_unfolding_all rfl); k_whole; intro D ws h' F' N' l1 i1; (try k_lt l1)); walk_say "SLICE"))
  (k_with "compareOp Eq ref ref" => (k_here; k_dflt (refine' grid_eq2 ?NZq ?raZq ?haZq ?rbZq ?hbZq ?hdZq (gridD_ok _ _) ?huZq ?_; (case NZq => k_asm); (case raZq => assumption); (case rbZq => assumption); (case hdZq => first | rfl | exact grid_congr (by assumption) (by assumption) | (congr 2; done) | (congr 2 <;> law_clear <;> omega)); (case haZq => exact fun p hp => by first | exact List.mem_append_left _ hp | exact List.mem_append_right _ (List.mem_append_left _ hp)); (case hbZq => exact fun p hp => by first | exact List.mem_append_left _ hp | exact List.mem_append_right _ (List.mem_append_left _ hp)); (case huZq => first | ke_room | ktr_units); k_whole); walk_say "GRIDS"))
  trivial
set_option maxHeartbeats 0 in
theorem c_m0 (y m l : Int) (ty tm tl : Tok) (tk : Tok) (h0 : 1 ≤ m ∧ m ≤ 12) : Con 24 406 [.int 0 tk, .int y ty, .int m tm, .int l tl] (PB (true)) := by
  have hJ := firstG (y := y) h0
  have hS := sizeG (y := y) h0
  have hb := getD_b (b := leapG y) (i := (m - 1).toNat) (by omega)
  have hst := fm7b (jan y + ((szL (leapG y)).take (m - 1).toNat).sum)
  unfold Con
  k_fill
  w_on
  intros; rename_i hret
  refine wpAny_call ?_
  k_dflt (refine' code_p ?k1 ?k2 ?k3 ?k4 ?k5 ?kA ?kF ?kK ?k6 ?k7 ?k8 ?k9 ?kB ?_ ?c2 ?c3 ?c4 ?c5; (case kA => exact rfl); (case kF => exact rfl); (case kK => assumption); (case k1 => k_asm); (case k2 => k_asm); (case k3 => k_asm); (case k4 => k_asm); (case k5 => k_asm); (case k6 => k_is); (case k7 => k_is); (case k8 => first | exact Nat.lt_of_le_of_lt (Nat.le_add_right _ _) (by assumption) | ktr_room); (case k9 => first | exact BindsTo.of_eq rfl | exact binds_K (by k_in) rfl (by k_is) rfl rfl rfl); (case c5 => decide); (case kB => exact locs rfl); (case c2 => exact rfl); (case c3 => exact rfl); (case c4 => exact rfl); k_whole; intro g' L' h' FG' F' N' B' X' T'; (try dsimp only); (try k_lift B'); (try k_fold))
  k_steps
  all_goals (refine hret _ [] _ _ ⟨rfl, congrArg Value.bool ?_⟩ (by k_asm) ((by assumption : ∀ tl, News _ _ _ tl → News _ _ _ (tl ++ _)) [] News.nil) (fun _ h => nomatch h))
  all_goals (first | rfl | (exfalso; law_clear; omega))
-- part M3_1
theorem ln_M3_1_1 : True := by
  k_with_none
  (k_with "execs cons" => (k_here; (try dsimp only); k_gentoks))
  (k_with "execs nil" => (k_here; (try dsimp only); k_gentoks))
  (k_with "call ref" => (k_here; k_dflt (refine' con_int (c_mlJ _ _ _ _) ?k1Zq ?k2Zq ?k3Zq ?k4Zq ?k5Zq ?kKZq ?kdZq ?kuZq ?_; (case k1Zq => k_asm); (case k2Zq => k_asm); (case k3Zq => k_asm); (case k4Zq => k_asm); (case k5Zq => k_asm); (case kKZq => first | exact rfl | assumption); (case kdZq => first | exact room_of (by assumption) (by rfl) | ktr_room); (case kuZq => first | exact units_of (by assumption) (by rfl) | ktr_units)); intro t9 h9 tk9 F9 N9; (try dsimp only); (try k_fold); walk_say "USE c_mlJ"))
  (k_with "call ref" => (k_here; k_dflt (refine' con_int (c_jdJ _ _ _ _ _) ?k1Zq ?k2Zq ?k3Zq ?k4Zq ?k5Zq ?kKZq ?kdZq ?kuZq ?_; (case k1Zq => k_asm); (case k2Zq => k_asm); (case k3Zq => k_asm); (case k4Zq => k_asm); (case k5Zq => k_asm); (case kKZq => first | exact rfl | assumption); (case kdZq => first | exact room_of (by assumption) (by rfl) | ktr_room); (case kuZq => first | exact units_of (by assumption) (by rfl) | ktr_units)); intro t9 h9 tk9 F9 N9; (try dsimp only); (try k_fold); walk_say "USE c_jdJ"))
  (k_with "call ref" => (k_here; k_dflt (refine' con_grid (c_mcJ _ _ _ _) ?k1Zq ?k2Zq ?k3Zq ?k4Zq ?k5Zq ?kKZq ?kdZq ?kuZq ?_; (case k1Zq => k_asm); (case k2Zq => k_asm); (case k3Zq => k_asm); (case k4Zq => k_asm); (case k5Zq => k_asm); (case kKZq => first | exact rfl | assumption); (case kdZq => first | exact room_of (by assumption) (by rfl) | ktr_room); (case kuZq => first | exact units_of (by assumption) (by rfl) | ktr_units)); intro a9 tl9 h9 tk9 G9 F9 N9 l9; (try dsimp only); (try k_fold); walk_say "USE c_mcJ"))
  (k_with "call ref" => (k_here; k_dflt (refine' con_grid (c_rows _ _ _ _ ?p0Zq ?p1Zq) ?k1Zq ?k2Zq ?k3Zq ?k4Zq ?k5Zq ?kKZq ?kdZq ?kuZq ?_; (case p0Zq => first | assumption | omega | l_fact | (simp_all; done) | (simp_all; omega)); (case p1Zq => first | assumption | omega | l_fact | (simp_all; done) | (simp_all; omega)); (case k1Zq => k_asm); (case k2Zq => k_asm); (case k3Zq => k_asm); (case k4Zq => k_asm); (case k5Zq => k_asm); (case kKZq => first | exact rfl | assumption); (case kdZq => first | exact room_of (by assumption) (by rfl) | ktr_room); (case kuZq => first | exact units_of (by assumption) (by rfl) | ktr_units)); intro a9 tl9 h9 tk9 G9 F9 N9 l9; (try dsimp only); (try k_fold); walk_say "USE c_rows"))
  (k_with "call ref" => (k_here; k_dflt (refine' con_list (c_sizes _) ?k1Zq ?k2Zq ?k3Zq ?k4Zq ?k5Zq ?kKZq ?kdZq ?kuZq ?_; (case k1Zq => k_asm); (case k2Zq => k_asm); (case k3Zq => k_asm); (case k4Zq => k_asm); (case k5Zq => k_asm); (case kKZq => first | exact rfl | assumption); (case kdZq => first | exact room_of (by assumption) (by rfl) | ktr_room); (case kuZq => first | exact units_of (by assumption) (by rfl) | ktr_units)); intro D9 us9 n9 h9 tk9 I9 F9 N9 l9; (try dsimp only); (try k_fold); walk_say "USE c_sizes"))
  (k_with "subscriptTail" => (k_here; (with_reducible show wpAny _ _ (subscriptTail _ _ (Value.ref _) (Value.int _ _)) _ _ _); k_dflt (refine' item_made ?NZq ?mZq ?iZq ?aZq ?bZq ?lZq ?_ ?sZq; (case NZq => k_asm); (case mZq => k_mem); (case iZq => assumption); (case aZq => omega); (case bZq => (simp only [szL, List.length_cons, List.length_nil]; omega)); (case lZq => exact Nat.le_of_ble_eq_true rfl); (case sZq => with_unfolding_all rfl); k_whole; intro t9); walk_say "ITEM"))
  (k_with "subscriptTail" => (k_here; (with_reducible show wpAny _ _ (subscriptTail _ (Expr.Slice _ _ _ _) (Value.ref _) (Value.ref _)) _ _ _); k_dflt (refine' slice_made_upto2 ?FZq ?NZq ?mZq ?iZq ?aZq ?bZq ?lZq ?_ ?sZq; (case FZq => k_asm); (case NZq => k_asm); (case mZq => k_mem); (case iZq => assumption); (case aZq => omega); (case bZq => (simp only [szL, List.length_cons, List.length_nil]; omega)); (case lZq => exact Nat.le_of_ble_eq_true rfl); (case sZq => with_unfolding_all rfl); k_whole; intro D ws h' F' N' l1 i1; (try k_lt l1)); walk_say "SLICE"))
  (k_with "compareOp Eq ref ref" => (k_here; k_dflt (refine' grid_eq2 ?NZq ?raZq ?haZq ?rbZq ?hbZq ?hdZq (gridD_ok _ _) ?huZq ?_; (case NZq => k_asm); (case raZq => assumption); (case rbZq => assumption); (case hdZq => first | rfl | (congr 2; done) | (congr 2 <;> law_clear <;> omega)); (case haZq => exact fun p hp => by first | exact List.mem_append_left _ hp | exact List.mem_append_right _ (List.mem_append_left _ hp)); (case hbZq => exact fun p hp => by first | exact List.mem_append_left _ hp | exact List.mem_append_right _ (List.mem_append_left _ hp)); (case huZq => first | ke_room | ktr_units); k_whole); walk_say "GRIDS"))
  trivial
set_option maxHeartbeats 0 in
theorem c_m1 (y m l : Int) (ty tm tl : Tok) (tk : Tok) (h0 : 1 ≤ m ∧ m ≤ 12) : Con 24 406 [.int 1 tk, .int y ty, .int m tm, .int l tl] (PB (true)) := by
  have hS := sizeJ (y := y) h0
  have hb := mlJ_b y m
  have hst := fm7b (jdJ y m 1)
  unfold Con
  k_fill
  w_on
  intros; rename_i hret
  refine wpAny_call ?_
  k_dflt (refine' code_p ?k1 ?k2 ?k3 ?k4 ?k5 ?kA ?kF ?kK ?k6 ?k7 ?k8 ?k9 ?kB ?_ ?c2 ?c3 ?c4 ?c5; (case kA => exact rfl); (case kF => exact rfl); (case kK => assumption); (case k1 => k_asm); (case k2 => k_asm); (case k3 => k_asm); (case k4 => k_asm); (case k5 => k_asm); (case k6 => k_is); (case k7 => k_is); (case k8 => first | exact Nat.lt_of_le_of_lt (Nat.le_add_right _ _) (by assumption) | ktr_room); (case k9 => first | exact BindsTo.of_eq rfl | exact binds_K (by k_in) rfl (by k_is) rfl rfl rfl); (case c5 => decide); (case kB => exact locs rfl); (case c2 => exact rfl); (case c3 => exact rfl); (case c4 => exact rfl); k_whole; intro g' L' h' FG' F' N' B' X' T'; (try dsimp only); (try k_lift B'); (try k_fold))
  k_steps
  all_goals (refine hret _ [] _ _ ⟨rfl, congrArg Value.bool ?_⟩ (by k_asm) ((by assumption : ∀ tl, News _ _ _ tl → News _ _ _ (tl ++ _)) [] News.nil) (fun _ h => nomatch h))
  all_goals (first | rfl | (exfalso; law_clear; omega))
-- part M3_3
theorem eC1 {y l : Int} (h : l ≠ 13) : 30 = mlC y l := (if_neg h).symm
theorem eC2 {y l : Int} (h : l = 13) (h2 : Int.fmod y 4 = 3) : 6 = mlC y l := by rw [mlC, if_pos h, if_pos h2]
theorem eC3 {y l : Int} (h : l = 13) (h2 : Int.fmod y 4 ≠ 3) : 5 = mlC y l := by rw [mlC, if_pos h, if_neg h2]
theorem bC (y l : Int) : 5 ≤ mlC y l ∧ mlC y l ≤ 31 := by unfold mlC; (repeat' split) <;> decide
theorem ln_M3_3_1 : True := by
  k_with_none
  (k_with "execs cons" => (k_here; (try dsimp only); k_gentoks))
  (k_with "execs nil" => (k_here; (try dsimp only); k_gentoks))
  (k_with "call ref" => (k_here; k_dflt (refine' con_int (c_jdC _ _ _ _ _) ?k1Zq ?k2Zq ?k3Zq ?k4Zq ?k5Zq ?kKZq ?kdZq ?kuZq ?_; (case k1Zq => k_asm); (case k2Zq => k_asm); (case k3Zq => k_asm); (case k4Zq => k_asm); (case k5Zq => k_asm); (case kKZq => first | exact rfl | assumption); (case kdZq => first | exact room_of (by assumption) (by rfl) | ktr_room); (case kuZq => first | exact units_of (by assumption) (by rfl) | ktr_units)); intro t9 h9 tk9 F9 N9; (try dsimp only); (try k_fold); walk_say "USE c_jdC"))
  (k_with "call ref" => (k_here; k_dflt (refine' con_int (c_mlC2 _ _ _ _ ?p0Zq) ?k1Zq ?k2Zq ?k3Zq ?k4Zq ?k5Zq ?kKZq ?kdZq ?kuZq ?_; (case p0Zq => first | assumption | omega | l_fact | (simp_all; done) | (simp_all; omega)); (case k1Zq => k_asm); (case k2Zq => k_asm); (case k3Zq => k_asm); (case k4Zq => k_asm); (case k5Zq => k_asm); (case kKZq => first | exact rfl | assumption); (case kdZq => first | exact room_of (by assumption) (by rfl) | ktr_room); (case kuZq => first | exact units_of (by assumption) (by rfl) | ktr_units)); intro t9 h9 tk9 F9 N9; (try dsimp only); (try k_fold); walk_say "USE c_mlC2"))
  (k_with "call ref" => (k_here; k_dflt (refine' con_grid (c_mcC _ _ _ _ ?p0Zq) ?k1Zq ?k2Zq ?k3Zq ?k4Zq ?k5Zq ?kKZq ?kdZq ?kuZq ?_; (case p0Zq => first | assumption | omega | l_fact | (simp_all; done) | (simp_all; omega)); (case k1Zq => k_asm); (case k2Zq => k_asm); (case k3Zq => k_asm); (case k4Zq => k_asm); (case k5Zq => k_asm); (case kKZq => first | exact rfl | assumption); (case kdZq => first | exact room_of (by assumption) (by rfl) | ktr_room); (case kuZq => first | exact units_of (by assumption) (by rfl) | ktr_units)); intro a9 tl9 h9 tk9 G9 F9 N9 l9; (try dsimp only); (try k_fold); walk_say "USE c_mcC"))
  (k_with "call ref" => (k_here; k_dflt (refine' con_grid (c_rows _ _ _ _ ?p0Zq ?p1Zq) ?k1Zq ?k2Zq ?k3Zq ?k4Zq ?k5Zq ?kKZq ?kdZq ?kuZq ?_; (case p0Zq => first | assumption | omega | l_fact | (simp_all; done) | (simp_all; omega)); (case p1Zq => first | assumption | omega | l_fact | (simp_all; done) | (simp_all; omega)); (case k1Zq => k_asm); (case k2Zq => k_asm); (case k3Zq => k_asm); (case k4Zq => k_asm); (case k5Zq => k_asm); (case kKZq => first | exact rfl | assumption); (case kdZq => first | exact room_of (by assumption) (by rfl) | ktr_room); (case kuZq => first | exact units_of (by assumption) (by rfl) | ktr_units)); intro a9 tl9 h9 tk9 G9 F9 N9 l9; (try dsimp only); (try k_fold); walk_say "USE c_rows"))
  (k_with "subscriptTail" => (k_here; (with_reducible show wpAny _ _ (subscriptTail _ _ (Value.ref _) (Value.int _ _)) _ _ _); k_dflt (refine' item_made ?NZq ?mZq ?iZq ?aZq ?bZq ?lZq ?_ ?sZq; (case NZq => k_asm); (case mZq => k_mem); (case iZq => assumption); (case aZq => omega); (case bZq => (simp only [szL, List.length_cons, List.length_nil]; omega)); (case lZq => exact Nat.le_of_ble_eq_true rfl); (case sZq => with_unfolding_all rfl); k_whole; intro t9); walk_say "ITEM"))
  (k_with "subscriptTail" => (k_here; (with_reducible show wpAny _ _ (subscriptTail _ (Expr.Slice _ _ _ _) (Value.ref _) (Value.ref _)) _ _ _); k_dflt (refine' slice_made_upto2 ?FZq ?NZq ?mZq ?iZq ?aZq ?bZq ?lZq ?_ ?sZq; (case FZq => k_asm); (case NZq => k_asm); (case mZq => k_mem); (case iZq => assumption); (case aZq => omega); (case bZq => (simp only [szL, List.length_cons, List.length_nil]; omega)); (case lZq => exact Nat.le_of_ble_eq_true rfl); (case sZq => with_unfolding_all rfl); k_whole; intro D ws h' F' N' l1 i1; (try k_lt l1)); walk_say "SLICE"))
  (k_with "compareOp Eq ref ref" => (k_here; k_dflt (refine' grid_eq2 ?NZq ?raZq ?haZq ?rbZq ?hbZq ?hdZq (gridD_ok _ _) ?huZq ?_; (case NZq => k_asm); (case raZq => assumption); (case rbZq => assumption); (case hdZq => first | rfl | (congr 2; done) | (congr 2 <;> law_clear <;> omega)); (case haZq => exact fun p hp => by first | exact List.mem_append_left _ hp | exact List.mem_append_right _ (List.mem_append_left _ hp)); (case hbZq => exact fun p hp => by first | exact List.mem_append_left _ hp | exact List.mem_append_right _ (List.mem_append_left _ hp)); (case huZq => first | ke_room | ktr_units); k_whole); walk_say "GRIDS"))
  (k_with "eval IfExp" => (k_here; (with_reducible show wpAny _ _ (eval (Expr.IfExp (Expr.Compare _ _ _ _) _ _ _) _) _ _ _); refine stop_here ?_))
  trivial
set_option maxHeartbeats 0 in
theorem c_m3 (y m l : Int) (ty tm tl : Tok) (tk : Tok) (h0 : 1 ≤ l ∧ l ≤ 13) : Con 24 406 [.int 3 tk, .int y ty, .int m tm, .int l tl] (PB (true)) := by
  have hst := fm7b (1 + (l - 1) * 30 + (y - 1) * 365 + Int.fdiv y 4 + 1825030 - 1)
  unfold Con
  k_fill
  w_on
  intros; rename_i hret
  refine wpAny_call ?_
  k_dflt (refine' code_p ?k1 ?k2 ?k3 ?k4 ?k5 ?kA ?kF ?kK ?k6 ?k7 ?k8 ?k9 ?kB ?_ ?c2 ?c3 ?c4 ?c5; (case kA => exact rfl); (case kF => exact rfl); (case kK => assumption); (case k1 => k_asm); (case k2 => k_asm); (case k3 => k_asm); (case k4 => k_asm); (case k5 => k_asm); (case k6 => k_is); (case k7 => k_is); (case k8 => first | exact Nat.lt_of_le_of_lt (Nat.le_add_right _ _) (by assumption) | ktr_room); (case k9 => first | exact BindsTo.of_eq rfl | exact binds_K (by k_in) rfl (by k_is) rfl rfl rfl); (case c5 => decide); (case kB => exact locs rfl); (case c2 => exact rfl); (case c3 => exact rfl); (case c4 => exact rfl); k_whole; intro g' L' h' FG' F' N' B' X' T'; (try dsimp only); (try k_lift B'); (try k_fold))
  k_steps
  unfold StopHere
  k_dflt (refine' cutInt (· = mlC y l) ?lcF ?lcN ?one ?two; (case lcF => k_asm); (case lcN => k_asm))
  case one =>
    k_dflt (refine IfExp_ ?_)
    k_steps
    (all_goals try (unfold StopHere; k_dflt (refine IfExp_ ?_)))
    k_steps
    all_goals (k_dflt (refine intR_end (by k_asm) (by k_asm) ?_))
    all_goals (law_clear; first | exact eC1 (by omega) | exact eC2 (by omega) (by assumption) | exact eC3 (by omega) (by assumption))
  case two =>
    intro Y tY hY tkY eY FY NY
    subst eY
    have hbb := bC y l
    (try k_fold)
    k_steps
    all_goals (refine hret _ [] _ _ ⟨rfl, congrArg Value.bool ?_⟩ (by k_asm) ((by assumption : ∀ tl, News _ _ _ tl → News _ _ _ (tl ++ _)) [] News.nil) (fun _ h => nomatch h))
    all_goals (first | rfl | (exfalso; law_clear; omega))
-- part M3_4
theorem eD1 {m : Int} (h : m ≤ 6) : 31 = mlD m := (if_pos h).symm
theorem eD2 {m : Int} (h : ¬ m ≤ 6) : 30 = mlD m := (if_neg h).symm
theorem bD (m : Int) : 5 ≤ mlD m ∧ mlD m ≤ 31 := by unfold mlD; split <;> decide
theorem ln_M3_4_1 : True := by
  k_with_none
  (k_with "execs cons" => (k_here; (try dsimp only); k_gentoks))
  (k_with "execs nil" => (k_here; (try dsimp only); k_gentoks))
  (k_with "call ref" => (k_here; k_dflt (refine' con_int (c_jdD _ _ _ _ _ ?p0Zq) ?k1Zq ?k2Zq ?k3Zq ?k4Zq ?k5Zq ?kKZq ?kdZq ?kuZq ?_; (case p0Zq => first | assumption | omega | l_fact | (simp_all; done) | (simp_all; omega)); (case k1Zq => k_asm); (case k2Zq => k_asm); (case k3Zq => k_asm); (case k4Zq => k_asm); (case k5Zq => k_asm); (case kKZq => first | exact rfl | assumption); (case kdZq => first | exact room_of (by assumption) (by rfl) | ktr_room); (case kuZq => first | exact units_of (by assumption) (by rfl) | ktr_units)); intro t9 h9 tk9 F9 N9; (try dsimp only); (try k_fold); walk_say "USE c_jdD"))
  (k_with "call ref" => (k_here; k_dflt (refine' con_int (c_mlD2 _ _ _ _ ?p0Zq) ?k1Zq ?k2Zq ?k3Zq ?k4Zq ?k5Zq ?kKZq ?kdZq ?kuZq ?_; (case p0Zq => first | assumption | omega | l_fact | (simp_all; done) | (simp_all; omega)); (case k1Zq => k_asm); (case k2Zq => k_asm); (case k3Zq => k_asm); (case k4Zq => k_asm); (case k5Zq => k_asm); (case kKZq => first | exact rfl | assumption); (case kdZq => first | exact room_of (by assumption) (by rfl) | ktr_room); (case kuZq => first | exact units_of (by assumption) (by rfl) | ktr_units)); intro t9 h9 tk9 F9 N9; (try dsimp only); (try k_fold); walk_say "USE c_mlD2"))
  (k_with "call ref" => (k_here; k_dflt (refine' con_grid (c_mcD _ _ _ _ ?p0Zq) ?k1Zq ?k2Zq ?k3Zq ?k4Zq ?k5Zq ?kKZq ?kdZq ?kuZq ?_; (case p0Zq => first | assumption | omega | l_fact | (simp_all; done) | (simp_all; omega)); (case k1Zq => k_asm); (case k2Zq => k_asm); (case k3Zq => k_asm); (case k4Zq => k_asm); (case k5Zq => k_asm); (case kKZq => first | exact rfl | assumption); (case kdZq => first | exact room_of (by assumption) (by rfl) | ktr_room); (case kuZq => first | exact units_of (by assumption) (by rfl) | ktr_units)); intro a9 tl9 h9 tk9 G9 F9 N9 l9; (try dsimp only); (try k_fold); walk_say "USE c_mcD"))
  (k_with "call ref" => (k_here; k_dflt (refine' con_grid (c_rows _ _ _ _ ?p0Zq ?p1Zq) ?k1Zq ?k2Zq ?k3Zq ?k4Zq ?k5Zq ?kKZq ?kdZq ?kuZq ?_; (case p0Zq => first | assumption | omega | l_fact | (simp_all; done) | (simp_all; omega)); (case p1Zq => first | assumption | omega | l_fact | (simp_all; done) | (simp_all; omega)); (case k1Zq => k_asm); (case k2Zq => k_asm); (case k3Zq => k_asm); (case k4Zq => k_asm); (case k5Zq => k_asm); (case kKZq => first | exact rfl | assumption); (case kdZq => first | exact room_of (by assumption) (by rfl) | ktr_room); (case kuZq => first | exact units_of (by assumption) (by rfl) | ktr_units)); intro a9 tl9 h9 tk9 G9 F9 N9 l9; (try dsimp only); (try k_fold); walk_say "USE c_rows"))
  (k_with "subscriptTail" => (k_here; (with_reducible show wpAny _ _ (subscriptTail _ _ (Value.ref _) (Value.int _ _)) _ _ _); k_dflt (refine' item_made ?NZq ?mZq ?iZq ?aZq ?bZq ?lZq ?_ ?sZq; (case NZq => k_asm); (case mZq => k_mem); (case iZq => assumption); (case aZq => omega); (case bZq => (simp only [szL, List.length_cons, List.length_nil]; omega)); (case lZq => exact Nat.le_of_ble_eq_true rfl); (case sZq => with_unfolding_all rfl); k_whole; intro t9); walk_say "ITEM"))
  (k_with "subscriptTail" => (k_here; (with_reducible show wpAny _ _ (subscriptTail _ (Expr.Slice _ _ _ _) (Value.ref _) (Value.ref _)) _ _ _); k_dflt (refine' slice_made_upto2 ?FZq ?NZq ?mZq ?iZq ?aZq ?bZq ?lZq ?_ ?sZq; (case FZq => k_asm); (case NZq => k_asm); (case mZq => k_mem); (case iZq => assumption); (case aZq => omega); (case bZq => (simp only [szL, List.length_cons, List.length_nil]; omega)); (case lZq => exact Nat.le_of_ble_eq_true rfl); (case sZq => with_unfolding_all rfl); k_whole; intro D ws h' F' N' l1 i1; (try k_lt l1)); walk_say "SLICE"))
  (k_with "compareOp Eq ref ref" => (k_here; k_dflt (refine' grid_eq2 ?NZq ?raZq ?haZq ?rbZq ?hbZq ?hdZq (gridD_ok _ _) ?huZq ?_; (case NZq => k_asm); (case raZq => assumption); (case rbZq => assumption); (case hdZq => first | rfl | (congr 2; done) | (congr 2 <;> law_clear <;> omega)); (case haZq => exact fun p hp => by first | exact List.mem_append_left _ hp | exact List.mem_append_right _ (List.mem_append_left _ hp)); (case hbZq => exact fun p hp => by first | exact List.mem_append_left _ hp | exact List.mem_append_right _ (List.mem_append_left _ hp)); (case huZq => first | ke_room | ktr_units); k_whole); walk_say "GRIDS"))
  (k_with "eval IfExp" => (k_here; (with_reducible show wpAny _ _ (eval (Expr.IfExp (Expr.Compare _ _ _ _) _ _ _) _) _ _ _); refine stop_here ?_))
  trivial
set_option maxHeartbeats 0 in
theorem c_m4 (y m l : Int) (ty tm tl : Tok) (tk : Tok) (h0 : 1 ≤ m ∧ m ≤ 12) : Con 24 406 [.int 4 tk, .int y ty, .int m tm, .int l tl] (PB (true)) := by
  have hm2 : 2 ≤ (if m > 2 then m else 2) ∧ (if m > 2 then m else 2) ≤ 12 := by split <;> omega
  have hst := fm7b (jdD y (if m > 2 then m else 2))
  unfold Con
  k_fill
  w_on
  intros; rename_i hret
  refine wpAny_call ?_
  k_dflt (refine' code_p ?k1 ?k2 ?k3 ?k4 ?k5 ?kA ?kF ?kK ?k6 ?k7 ?k8 ?k9 ?kB ?_ ?c2 ?c3 ?c4 ?c5; (case kA => exact rfl); (case kF => exact rfl); (case kK => assumption); (case k1 => k_asm); (case k2 => k_asm); (case k3 => k_asm); (case k4 => k_asm); (case k5 => k_asm); (case k6 => k_is); (case k7 => k_is); (case k8 => first | exact Nat.lt_of_le_of_lt (Nat.le_add_right _ _) (by assumption) | ktr_room); (case k9 => first | exact BindsTo.of_eq rfl | exact binds_K (by k_in) rfl (by k_is) rfl rfl rfl); (case c5 => decide); (case kB => exact locs rfl); (case c2 => exact rfl); (case c3 => exact rfl); (case c4 => exact rfl); k_whole; intro g' L' h' FG' F' N' B' X' T'; (try dsimp only); (try k_lift B'); (try k_fold))
  k_steps
  unfold StopHere
  k_dflt (refine' cutInt (· = mlD (if m > 2 then m else 2)) ?lcF ?lcN ?one ?two; (case lcF => k_asm); (case lcN => k_asm))
  case one =>
    k_dflt (refine IfExp_ ?_)
    k_steps
    all_goals (k_dflt (refine intR_end (by k_asm) (by k_asm) ?_))
    all_goals (law_clear; first | exact eD1 (by assumption) | exact eD2 (by assumption) | exact eD1 (by omega) | exact eD2 (by omega))
  case two =>
    intro Y tY hY tkY eY FY NY
    subst eY
    have hbb := bD (if m > 2 then m else 2)
    (try k_fold)
    k_steps
    all_goals (refine hret _ [] _ _ ⟨rfl, congrArg Value.bool ?_⟩ (by k_asm) ((by assumption : ∀ tl, News _ _ _ tl → News _ _ _ (tl ++ _)) [] News.nil) (fun _ h => nomatch h))
    all_goals (first | rfl | (exfalso; law_clear; omega))
-- part M3_5
theorem ln_M3_5_1 : True := by
  k_with_none
  (k_with "execs cons" => (k_here; (try dsimp only); k_gentoks))
  (k_with "execs nil" => (k_here; (try dsimp only); k_gentoks))
  (k_with "call ref" => (k_here; k_dflt (refine' con_int (c_jdA _ _ _ _ _ ?p0Zq ?p1Zq) ?k1Zq ?k2Zq ?k3Zq ?k4Zq ?k5Zq ?kKZq ?kdZq ?kuZq ?_; (case p0Zq => first | assumption | omega | l_fact | (simp_all; done) | (simp_all; omega)); (case p1Zq => first | assumption | omega | l_fact | (simp_all; done) | (simp_all; omega)); (case k1Zq => k_asm); (case k2Zq => k_asm); (case k3Zq => k_asm); (case k4Zq => k_asm); (case k5Zq => k_asm); (case kKZq => first | exact rfl | assumption); (case kdZq => first | exact room_of (by assumption) (by rfl) | ktr_room); (case kuZq => first | exact units_of (by assumption) (by rfl) | ktr_units)); intro t9 h9 tk9 F9 N9; (try dsimp only); (try k_fold); walk_say "USE c_jdA"))
  (k_with "call ref" => (k_here; k_dflt (refine' con_int (c_mlA2 _ _ _ _ ?p0Zq) ?k1Zq ?k2Zq ?k3Zq ?k4Zq ?k5Zq ?kKZq ?kdZq ?kuZq ?_; (case p0Zq => first | assumption | omega | l_fact | (simp_all; done) | (simp_all; omega)); (case k1Zq => k_asm); (case k2Zq => k_asm); (case k3Zq => k_asm); (case k4Zq => k_asm); (case k5Zq => k_asm); (case kKZq => first | exact rfl | assumption); (case kdZq => first | exact room_of (by assumption) (by rfl) | ktr_room); (case kuZq => first | exact units_of (by assumption) (by rfl) | ktr_units)); intro t9 h9 tk9 F9 N9; (try dsimp only); (try k_fold); walk_say "USE c_mlA2"))
  (k_with "call ref" => (k_here; k_dflt (refine' con_grid (c_mcA _ _ _ _ ?p0Zq ?p1Zq) ?k1Zq ?k2Zq ?k3Zq ?k4Zq ?k5Zq ?kKZq ?kdZq ?kuZq ?_; (case p0Zq => first | assumption | omega | l_fact | (simp_all; done) | (simp_all; omega)); (case p1Zq => first | assumption | omega | l_fact | (simp_all; done) | (simp_all; omega)); (case k1Zq => k_asm); (case k2Zq => k_asm); (case k3Zq => k_asm); (case k4Zq => k_asm); (case k5Zq => k_asm); (case kKZq => first | exact rfl | assumption); (case kdZq => first | exact room_of (by assumption) (by rfl) | ktr_room); (case kuZq => first | exact units_of (by assumption) (by rfl) | ktr_units)); intro a9 tl9 h9 tk9 G9 F9 N9 l9; (try dsimp only); (try k_fold); walk_say "USE c_mcA"))
  (k_with "call ref" => (k_here; k_dflt (refine' con_grid (c_rows _ _ _ _ ?p0Zq ?p1Zq) ?k1Zq ?k2Zq ?k3Zq ?k4Zq ?k5Zq ?kKZq ?kdZq ?kuZq ?_; (case p0Zq => first | assumption | omega | l_fact | (simp_all; done) | (simp_all; omega)); (case p1Zq => first | assumption | omega | l_fact | (simp_all; done) | (simp_all; omega)); (case k1Zq => k_asm); (case k2Zq => k_asm); (case k3Zq => k_asm); (case k4Zq => k_asm); (case k5Zq => k_asm); (case kKZq => first | exact rfl | assumption); (case kdZq => first | exact room_of (by assumption) (by rfl) | ktr_room); (case kuZq => first | exact units_of (by assumption) (by rfl) | ktr_units)); intro a9 tl9 h9 tk9 G9 F9 N9 l9; (try dsimp only); (try k_fold); walk_say "USE c_rows"))
  (k_with "subscriptTail" => (k_here; (with_reducible show wpAny _ _ (subscriptTail _ _ (Value.ref _) (Value.int _ _)) _ _ _); k_dflt (refine' item_made ?NZq ?mZq ?iZq ?aZq ?bZq ?lZq ?_ ?sZq; (case NZq => k_asm); (case mZq => k_mem); (case iZq => assumption); (case aZq => omega); (case bZq => (simp only [szL, List.length_cons, List.length_nil]; omega)); (case lZq => exact Nat.le_of_ble_eq_true rfl); (case sZq => with_unfolding_all rfl); k_whole; intro t9); walk_say "ITEM"))
  (k_with "subscriptTail" => (k_here; (with_reducible show wpAny _ _ (subscriptTail _ (Expr.Slice _ _ _ _) (Value.ref _) (Value.ref _)) _ _ _); k_dflt (refine' slice_made_upto2 ?FZq ?NZq ?mZq ?iZq ?aZq ?bZq ?lZq ?_ ?sZq; (case FZq => k_asm); (case NZq => k_asm); (case mZq => k_mem); (case iZq => assumption); (case aZq => omega); (case bZq => (simp only [szL, List.length_cons, List.length_nil]; omega)); (case lZq => exact Nat.le_of_ble_eq_true rfl); (case sZq => with_unfolding_all rfl); k_whole; intro D ws h' F' N' l1 i1; (try k_lt l1)); walk_say "SLICE"))
  (k_with "compareOp Eq ref ref" => (k_here; k_dflt (refine' grid_eq2 ?NZq ?raZq ?haZq ?rbZq ?hbZq ?hdZq (gridD_ok _ _) ?huZq ?_; (case NZq => k_asm); (case raZq => assumption); (case rbZq => assumption); (case hdZq => first | rfl | (congr 2; done) | (congr 2 <;> law_clear <;> omega)); (case haZq => exact fun p hp => by first | exact List.mem_append_left _ hp | exact List.mem_append_right _ (List.mem_append_left _ hp)); (case hbZq => exact fun p hp => by first | exact List.mem_append_left _ hp | exact List.mem_append_right _ (List.mem_append_left _ hp)); (case huZq => first | ke_room | ktr_units); k_whole); walk_say "GRIDS"))
  (k_with "eval IfExp" => (k_here; (with_reducible show wpAny _ _ (eval (Expr.IfExp (Expr.Compare _ _ _ _) _ _ _) _) _ _ _); refine stop_here ?_))
  trivial
set_option maxHeartbeats 0 in
theorem c_m5 (y m l : Int) (ty tm tl : Tok) (tk : Tok) (h0 : 1 ≤ l ∧ l ≤ 13) : Con 24 406 [.int 5 tk, .int y ty, .int m tm, .int l tl] (PB (true)) := by
  have hy5 : 533 ≤ 533 + (if y < 0 then -y else y) := by split <;> omega
  have hst := fm7b (1922502 + 365 * (533 + if y < 0 then -y else y) + ((l - 1) * 30 + 1))
  unfold Con
  k_fill
  w_on
  intros; rename_i hret
  refine wpAny_call ?_
  k_dflt (refine' code_p ?k1 ?k2 ?k3 ?k4 ?k5 ?kA ?kF ?kK ?k6 ?k7 ?k8 ?k9 ?kB ?_ ?c2 ?c3 ?c4 ?c5; (case kA => exact rfl); (case kF => exact rfl); (case kK => assumption); (case k1 => k_asm); (case k2 => k_asm); (case k3 => k_asm); (case k4 => k_asm); (case k5 => k_asm); (case k6 => k_is); (case k7 => k_is); (case k8 => first | exact Nat.lt_of_le_of_lt (Nat.le_add_right _ _) (by assumption) | ktr_room); (case k9 => first | exact BindsTo.of_eq rfl | exact binds_K (by k_in) rfl (by k_is) rfl rfl rfl); (case c5 => decide); (case kB => exact locs rfl); (case c2 => exact rfl); (case c3 => exact rfl); (case c4 => exact rfl); k_whole; intro g' L' h' FG' F' N' B' X' T'; (try dsimp only); (try k_lift B'); (try k_fold))
  k_steps
  unfold StopHere
  k_dflt (refine' cutInt (· = mlA l) ?lcF ?lcN ?one ?two; (case lcF => k_asm); (case lcN => k_asm))
  case one =>
    k_dflt (refine IfExp_ ?_)
    k_steps
    all_goals (k_dflt (refine intR_end (by k_asm) (by k_asm) ?_))
    all_goals (law_clear; first | exact eA1 (by omega) | exact eA2 (by omega))
  case two =>
    intro Y tY hY tkY eY FY NY
    subst eY
    have hbb := bA l
    (try k_fold)
    k_steps
    all_goals (refine hret _ [] _ _ ⟨rfl, congrArg Value.bool ?_⟩ (by k_asm) ((by assumption : ∀ tl, News _ _ _ tl → News _ _ _ (tl ++ _)) [] News.nil) (fun _ h => nomatch h))
    all_goals (first | rfl | (exfalso; law_clear; omega))
-- part L5
theorem ln_L5_1 : True := by
  k_with_none
  (k_with "execs cons" => (k_here; (try dsimp only); k_gentoks))
  (k_with "execs nil" => (k_here; (try dsimp only); k_gentoks))
  (k_with "call ref" => (k_here; k_dflt (refine' con_int (c_trunc4 _ _ _ ?p0Zq) ?k1Zq ?k2Zq ?k3Zq ?k4Zq ?k5Zq ?kKZq ?kdZq ?kuZq ?_; (case p0Zq => first | assumption | omega | l_fact | (simp_all; done) | (simp_all; omega)); (case k1Zq => k_asm); (case k2Zq => k_asm); (case k3Zq => k_asm); (case k4Zq => k_asm); (case k5Zq => k_asm); (case kKZq => first | exact rfl | assumption); (case kdZq => first | exact room_of (by assumption) (by rfl) | ktr_room); (case kuZq => first | exact units_of (by assumption) (by rfl) | ktr_units)); intro t9 h9 tk9 F9 N9; (try dsimp only); (try k_fold); walk_say "USE c_trunc4"))
  (k_with "call ref" => (k_here; k_dflt (refine' con_bool (c_validS _ _ _ _ _ _ ?p0Zq ?p1Zq) ?k1Zq ?k2Zq ?k3Zq ?k4Zq ?k5Zq ?kKZq ?kdZq ?kuZq ?_; (case p0Zq => first | assumption | omega | l_fact | (simp_all; done) | (simp_all; omega)); (case p1Zq => first | assumption | omega | l_fact | (simp_all; done) | (simp_all; omega)); (case k1Zq => k_asm); (case k2Zq => k_asm); (case k3Zq => k_asm); (case k4Zq => k_asm); (case k5Zq => k_asm); (case kKZq => first | exact rfl | assumption); (case kdZq => first | exact room_of (by assumption) (by rfl) | ktr_room); (case kuZq => first | exact units_of (by assumption) (by rfl) | ktr_units)); intro h9 tk9 F9 N9; (try dsimp only); (try k_fold); walk_say "USE c_validS"))
  (k_with "eval Call" => (k_here; with_unfolding_all refine Call_ ?_))
  trivial
set_option maxHeartbeats 0 in
theorem c_jdS (y m : Int) (ty tm : Tok) (td tz : Tok) (h0 : 533 ≤ y) (h1 : 1 ≤ m ∧ m ≤ 13) : Con 12 206 [.int y ty, .int m tm, .int 1 td, .str (Str.ofString "sarkawag") tz] (PI (2117211 + 365 * (y - 533) + Int.fdiv (y - 533) 4 + ((m - 1) * 30 + 1))) := by
  unfold Con
  k_fill
  w_on
  intros; rename_i hret
  refine wpAny_call ?_
  k_dflt (refine' code_p ?k1 ?k2 ?k3 ?k4 ?k5 ?kA ?kF ?kK ?k6 ?k7 ?k8 ?k9 ?kB ?_ ?c2 ?c3 ?c4 ?c5; (case kA => exact rfl); (case kF => exact rfl); (case kK => assumption); (case k1 => k_asm); (case k2 => k_asm); (case k3 => k_asm); (case k4 => k_asm); (case k5 => k_asm); (case k6 => k_is); (case k7 => k_is); (case k8 => first | exact Nat.lt_of_le_of_lt (Nat.le_add_right _ _) (by assumption) | ktr_room); (case k9 => first | exact BindsTo.of_eq rfl | exact binds_K (by k_in) rfl (by k_is) rfl rfl rfl); (case c5 => decide); (case kB => exact locs rfl); (case c2 => exact rfl); (case c3 => exact rfl); (case c4 => exact rfl); k_whole; intro g' L' h' FG' F' N' B' X' T'; (try dsimp only); (try k_lift B'); (try k_fold))
  k_steps
  all_goals (refine hret _ [] _ _ ⟨rfl, _, congrArg (Value.int · _) ?_⟩ (by k_asm) ((by assumption : ∀ tl, News _ _ _ tl → News _ _ _ (tl ++ _)) [] News.nil) (fun _ h => nomatch h))
  all_goals rfl
-- part M0S
theorem ln_M0S_1 : True := by
  k_with_none
  (k_with "execs cons" => (k_here; (try dsimp only); k_gentoks))
  (k_with "execs nil" => (k_here; (try dsimp only); k_gentoks))
  (k_with "call ref" => (k_here; k_dflt (refine' con_int (c_jwday _ _) ?k1Zq ?k2Zq ?k3Zq ?k4Zq ?k5Zq ?kKZq ?kdZq ?kuZq ?_; (case k1Zq => k_asm); (case k2Zq => k_asm); (case k3Zq => k_asm); (case k4Zq => k_asm); (case k5Zq => k_asm); (case kKZq => first | exact rfl | assumption); (case kdZq => first | exact room_of (by assumption) (by rfl) | ktr_room); (case kuZq => first | exact units_of (by assumption) (by rfl) | ktr_units)); intro t9 h9 tk9 F9 N9; (try dsimp only); (try k_fold); walk_say "USE c_jwday"))
  (k_with "call ref" => (k_here; k_dflt (refine' con_int (c_mlS _ _ _ _ _ ?p0Zq ?p1Zq) ?k1Zq ?k2Zq ?k3Zq ?k4Zq ?k5Zq ?kKZq ?kdZq ?kuZq ?_; (case p0Zq => first | assumption | omega | l_fact | (simp_all; done) | (simp_all; omega)); (case p1Zq => first | assumption | omega | l_fact | (simp_all; done) | (simp_all; omega)); (case k1Zq => k_asm); (case k2Zq => k_asm); (case k3Zq => k_asm); (case k4Zq => k_asm); (case k5Zq => k_asm); (case kKZq => first | exact rfl | assumption); (case kdZq => first | exact room_of (by assumption) (by rfl) | ktr_room); (case kuZq => first | exact units_of (by assumption) (by rfl) | ktr_units)); intro t9 h9 tk9 F9 N9; (try dsimp only); (try k_fold); walk_say "USE c_mlS"))
  (k_with "call ref" => (k_here; k_dflt (refine' con_int (c_jdS _ _ _ _ _ _ ?p0Zq ?p1Zq) ?k1Zq ?k2Zq ?k3Zq ?k4Zq ?k5Zq ?kKZq ?kdZq ?kuZq ?_; (case p0Zq => first | assumption | omega | l_fact | (simp_all; done) | (simp_all; omega)); (case p1Zq => first | assumption | omega | l_fact | (simp_all; done) | (simp_all; omega)); (case k1Zq => k_asm); (case k2Zq => k_asm); (case k3Zq => k_asm); (case k4Zq => k_asm); (case k5Zq => k_asm); (case kKZq => first | exact rfl | assumption); (case kdZq => first | exact room_of (by assumption) (by rfl) | ktr_room); (case kuZq => first | exact units_of (by assumption) (by rfl) | ktr_units)); intro t9 h9 tk9 F9 N9; (try dsimp only); (try k_fold); walk_say "USE c_jdS"))
  (k_with "call ref" => (k_here; k_dflt (refine' con_int (c_jdS _ _ _ _ _ _ ?p0Zq ?p1Zq) ?k1Zq ?k2Zq ?k3Zq ?k4Zq ?k5Zq ?kKZq ?kdZq ?kuZq ?_; (case p0Zq => first | assumption | omega | l_fact | (simp_all; done) | (simp_all; omega)); (case p1Zq => first | assumption | omega | l_fact | (simp_all; done) | (simp_all; omega)); (case k1Zq => k_asm); (case k2Zq => k_asm); (case k3Zq => k_asm); (case k4Zq => k_asm); (case k5Zq => k_asm); (case kKZq => first | exact rfl | assumption); (case kdZq => first | exact room_of (by assumption) (by rfl) | ktr_room); (case kuZq => first | exact units_of (by assumption) (by rfl) | ktr_units)); intro t9 h9 tk9 F9 N9; (try dsimp only); (try k_fold); walk_say "USE c_jdS"))
  (k_with "call ref" => (k_here; k_dflt (refine' con_grid (c_help _ _ _ _ ?p0Zq ?p1Zq) ?k1Zq ?k2Zq ?k3Zq ?k4Zq ?k5Zq ?kKZq ?kdZq ?kuZq ?_; (case p0Zq => first | assumption | omega | l_fact | (simp_all; done) | (simp_all; omega)); (case p1Zq => first | assumption | omega | l_fact | (simp_all; done) | (simp_all; omega)); (case k1Zq => k_asm); (case k2Zq => k_asm); (case k3Zq => k_asm); (case k4Zq => k_asm); (case k5Zq => k_asm); (case kKZq => first | exact rfl | assumption); (case kdZq => first | exact room_of (by assumption) (by rfl) | ktr_room); (case kuZq => first | exact units_of (by assumption) (by rfl) | ktr_units)); intro a9 tl9 h9 tk9 G9 F9 N9 l9; (try dsimp only); (try k_fold); walk_say "USE c_help"))
  trivial
set_option maxHeartbeats 0 in
theorem c_mcS (y m : Int) (ty tm : Tok) (tz : Tok) (h0 : 533 ≤ y) (h1 : 1 ≤ m ∧ m ≤ 13) : Con 18 222 [.int y ty, .int m tm, .str (Str.ofString "sarkawag") tz] (PG (gridD (Int.fmod (Int.fmod (2117211 + 365 * (y - 533) + Int.fdiv (y - 533) 4 + ((m - 1) * 30 + 1)) 7 + 1) 7).toNat (mlS y m : Int).toNat)) := by
  have hst := fm7b (2117211 + 365 * (y - 533) + Int.fdiv (y - 533) 4 + ((m - 1) * 30 + 1))
  have hml := mlS_bd y m
  unfold Con
  k_fill
  w_on
  intros; rename_i hret
  refine wpAny_call ?_
  k_dflt (refine' code_p ?k1 ?k2 ?k3 ?k4 ?k5 ?kA ?kF ?kK ?k6 ?k7 ?k8 ?k9 ?kB ?_ ?c2 ?c3 ?c4 ?c5; (case kA => exact rfl); (case kF => exact rfl); (case kK => assumption); (case k1 => k_asm); (case k2 => k_asm); (case k3 => k_asm); (case k4 => k_asm); (case k5 => k_asm); (case k6 => k_is); (case k7 => k_is); (case k8 => first | exact Nat.lt_of_le_of_lt (Nat.le_add_right _ _) (by assumption) | ktr_room); (case k9 => first | exact BindsTo.of_eq rfl | exact binds_K (by k_in) rfl (by k_is) rfl rfl rfl); (case c5 => decide); (case kB => exact locs rfl); (case c2 => exact rfl); (case c3 => exact rfl); (case c4 => exact rfl); k_whole; intro g' L' h' FG' F' N' B' X' T'; (try dsimp only); (try k_lift B'); (try k_fold))
  k_steps
  all_goals (k_dflt (refine' end_gridc hret (by assumption) ?kF ?M ?S ?kN ?N; (case kF => k_asm); (case M => assumption); (case S => assumption); (case kN => k_asm); (case N => k_asm)))
-- part M3_6
theorem abs533 (y : Int) : 533 ≤ 533 + (if y < 0 then -y else y) := by split <;> omega
theorem eS1 {y l : Int} (h : l = 13) (h2 : Int.fmod y 4 = 0) : 6 = mlS y l := by rw [mlS, if_pos h, if_pos h2]
theorem eS2 {y l : Int} (h : l = 13) (h2 : Int.fmod y 4 ≠ 0) : mlA l = mlS y l := by rw [mlS, mlA, if_pos h, if_pos h, if_neg h2]
theorem eS3 {y l : Int} (h : l ≠ 13) : mlA l = mlS y l := by rw [mlS, mlA, if_neg h, if_neg h]
theorem bS (y l : Int) : 5 ≤ mlS y l ∧ mlS y l ≤ 31 := by unfold mlS; (repeat' split) <;> decide
theorem ln_M3_6_1 : True := by
  k_with_none
  (k_with "execs cons" => (k_here; (try dsimp only); k_gentoks))
  (k_with "execs nil" => (k_here; (try dsimp only); k_gentoks))
  (k_with "call ref" => (k_here; k_dflt (refine' con_int (c_mlS _ _ _ _ _ ?p0Zq ?p1Zq) ?k1Zq ?k2Zq ?k3Zq ?k4Zq ?k5Zq ?kKZq ?kdZq ?kuZq ?_; (case p0Zq => first | assumption | omega | l_fact | (simp_all; done) | (simp_all; omega)); (case p1Zq => first | assumption | omega | l_fact | (simp_all; done) | (simp_all; omega)); (case k1Zq => k_asm); (case k2Zq => k_asm); (case k3Zq => k_asm); (case k4Zq => k_asm); (case k5Zq => k_asm); (case kKZq => first | exact rfl | assumption); (case kdZq => first | exact room_of (by assumption) (by rfl) | ktr_room); (case kuZq => first | exact units_of (by assumption) (by rfl) | ktr_units)); intro t9 h9 tk9 F9 N9; (try dsimp only); (try k_fold); walk_say "USE c_mlS"))
  (k_with "call ref" => (k_here; k_dflt (refine' con_int (c_jdS _ _ _ _ _ _ ?p0Zq ?p1Zq) ?k1Zq ?k2Zq ?k3Zq ?k4Zq ?k5Zq ?kKZq ?kdZq ?kuZq ?_; (case p0Zq => first | assumption | omega | l_fact | (simp_all; done) | (simp_all; omega)); (case p1Zq => first | assumption | omega | l_fact | (simp_all; done) | (simp_all; omega)); (case k1Zq => k_asm); (case k2Zq => k_asm); (case k3Zq => k_asm); (case k4Zq => k_asm); (case k5Zq => k_asm); (case kKZq => first | exact rfl | assumption); (case kdZq => first | exact room_of (by assumption) (by rfl) | ktr_room); (case kuZq => first | exact units_of (by assumption) (by rfl) | ktr_units)); intro t9 h9 tk9 F9 N9; (try dsimp only); (try k_fold); walk_say "USE c_jdS"))
  (k_with "call ref" => (k_here; k_dflt (refine' con_int (c_jdS _ _ _ _ _ _ ?p0Zq ?p1Zq) ?k1Zq ?k2Zq ?k3Zq ?k4Zq ?k5Zq ?kKZq ?kdZq ?kuZq ?_; (case p0Zq => first | assumption | omega | l_fact | (simp_all; done) | (simp_all; omega)); (case p1Zq => first | assumption | omega | l_fact | (simp_all; done) | (simp_all; omega)); (case k1Zq => k_asm); (case k2Zq => k_asm); (case k3Zq => k_asm); (case k4Zq => k_asm); (case k5Zq => k_asm); (case kKZq => first | exact rfl | assumption); (case kdZq => first | exact room_of (by assumption) (by rfl) | ktr_room); (case kuZq => first | exact units_of (by assumption) (by rfl) | ktr_units)); intro t9 h9 tk9 F9 N9; (try dsimp only); (try k_fold); walk_say "USE c_jdS"))
  (k_with "call ref" => (k_here; k_dflt (refine' con_grid (c_mcS _ _ _ _ _ ?p0Zq ?p1Zq) ?k1Zq ?k2Zq ?k3Zq ?k4Zq ?k5Zq ?kKZq ?kdZq ?kuZq ?_; (case p0Zq => first | assumption | omega | l_fact | (simp_all; done) | (simp_all; omega)); (case p1Zq => first | assumption | omega | l_fact | (simp_all; done) | (simp_all; omega)); (case k1Zq => k_asm); (case k2Zq => k_asm); (case k3Zq => k_asm); (case k4Zq => k_asm); (case k5Zq => k_asm); (case kKZq => first | exact rfl | assumption); (case kdZq => first | exact room_of (by assumption) (by rfl) | ktr_room); (case kuZq => first | exact units_of (by assumption) (by rfl) | ktr_units)); intro a9 tl9 h9 tk9 G9 F9 N9 l9; (try dsimp only); (try k_fold); walk_say "USE c_mcS"))
  (k_with "call ref" => (k_here; k_dflt (refine' con_grid (c_rows _ _ _ _ ?p0Zq ?p1Zq) ?k1Zq ?k2Zq ?k3Zq ?k4Zq ?k5Zq ?kKZq ?kdZq ?kuZq ?_; (case p0Zq => first | assumption | omega | l_fact | (simp_all; done) | (simp_all; omega)); (case p1Zq => first | assumption | omega | l_fact | (simp_all; done) | (simp_all; omega)); (case k1Zq => k_asm); (case k2Zq => k_asm); (case k3Zq => k_asm); (case k4Zq => k_asm); (case k5Zq => k_asm); (case kKZq => first | exact rfl | assumption); (case kdZq => first | exact room_of (by assumption) (by rfl) | ktr_room); (case kuZq => first | exact units_of (by assumption) (by rfl) | ktr_units)); intro a9 tl9 h9 tk9 G9 F9 N9 l9; (try dsimp only); (try k_fold); walk_say "USE c_rows"))
  (k_with "subscriptTail" => (k_here; (with_reducible show wpAny _ _ (subscriptTail _ _ (Value.ref _) (Value.int _ _)) _ _ _); k_dflt (refine' item_made ?NZq ?mZq ?iZq ?aZq ?bZq ?lZq ?_ ?sZq; (case NZq => k_asm); (case mZq => k_mem); (case iZq => assumption); (case aZq => omega); (case bZq => (simp only [szL, List.length_cons, List.length_nil]; omega)); (case lZq => exact Nat.le_of_ble_eq_true rfl); (case sZq => with_unfolding_all rfl); k_whole; intro t9); walk_say "ITEM"))
  (k_with "subscriptTail" => (k_here; (with_reducible show wpAny _ _ (subscriptTail _ (Expr.Slice _ _ _ _) (Value.ref _) (Value.ref _)) _ _ _); k_dflt (refine' slice_made_upto2 ?FZq ?NZq ?mZq ?iZq ?aZq ?bZq ?lZq ?_ ?sZq; (case FZq => k_asm); (case NZq => k_asm); (case mZq => k_mem); (case iZq => assumption); (case aZq => omega); (case bZq => (simp only [szL, List.length_cons, List.length_nil]; omega)); (case lZq => exact Nat.le_of_ble_eq_true rfl); (case sZq => with_unfolding_all rfl); k_whole; intro D ws h' F' N' l1 i1; (try k_lt l1)); walk_say "SLICE"))
  (k_with "compareOp Eq ref ref" => (k_here; k_dflt (refine' grid_eq2 ?NZq ?raZq ?haZq ?rbZq ?hbZq ?hdZq (gridD_ok _ _) ?huZq ?_; (case NZq => k_asm); (case raZq => assumption); (case rbZq => assumption); (case hdZq => first | rfl | (congr 2; done) | (congr 2 <;> law_clear <;> omega)); (case haZq => exact fun p hp => by first | exact List.mem_append_left _ hp | exact List.mem_append_right _ (List.mem_append_left _ hp)); (case hbZq => exact fun p hp => by first | exact List.mem_append_left _ hp | exact List.mem_append_right _ (List.mem_append_left _ hp)); (case huZq => first | ke_room | ktr_units); k_whole); walk_say "GRIDS"))
  (k_with "exec If" => (k_here; (fail_if_success (fail_if_success (have mk9 : GoMark := by with_reducible assumption))); (with_reducible show wpAny _ _ (exec (Stmt.If (Expr.BoolOp _ _ _) _ _ _) _) _ _ _); refine stop_here ?_))
  (k_with "eval IfExp" => (k_here; (fail_if_success (fail_if_success (have mk9 : GoMark := by with_reducible assumption))); (with_reducible show wpAny _ _ (eval (Expr.IfExp (Expr.Compare _ _ _ _) _ _ _) _) _ _ _); refine stop_here ?_))
  trivial
set_option maxHeartbeats 0 in
theorem c_m6 (y m l : Int) (ty tm tl : Tok) (tk : Tok) (h0 : 1 ≤ l ∧ l ≤ 13) : Con 24 406 [.int 6 tk, .int y ty, .int m tm, .int l tl] (PB (true)) := by
  have hmk := goMark
  have hy5 : 533 ≤ 533 + (if y < 0 then -y else y) := abs533 y
  have hst := fm7b (2117211 + 365 * ((533 + if y < 0 then -y else y) - 533) + Int.fdiv ((533 + if y < 0 then -y else y) - 533) 4 + ((l - 1) * 30 + 1))
  unfold Con
  k_fill
  w_on
  intros; rename_i hret
  refine wpAny_call ?_
  k_dflt (refine' code_p ?k1 ?k2 ?k3 ?k4 ?k5 ?kA ?kF ?kK ?k6 ?k7 ?k8 ?k9 ?kB ?_ ?c2 ?c3 ?c4 ?c5; (case kA => exact rfl); (case kF => exact rfl); (case kK => assumption); (case k1 => k_asm); (case k2 => k_asm); (case k3 => k_asm); (case k4 => k_asm); (case k5 => k_asm); (case k6 => k_is); (case k7 => k_is); (case k8 => first | exact Nat.lt_of_le_of_lt (Nat.le_add_right _ _) (by assumption) | ktr_room); (case k9 => first | exact BindsTo.of_eq rfl | exact binds_K (by k_in) rfl (by k_is) rfl rfl rfl); (case c5 => decide); (case kB => exact locs rfl); (case c2 => exact rfl); (case c3 => exact rfl); (case c4 => exact rfl); k_whole; intro g' L' h' FG' F' N' B' X' T'; (try dsimp only); (try k_lift B'); (try k_fold))
  k_steps
  unfold StopHere
  k_dflt (refine' cutInt (· = mlA l) ?lcF ?lcN ?one ?two; (case lcF => k_asm); (case lcN => k_asm))
  case one =>
    clear hmk
    k_dflt (refine IfExp_ ?_)
    k_steps
    all_goals (k_dflt (refine intR_end (by k_asm) (by k_asm) ?_))
    all_goals (law_clear; first | exact eA1 (by omega) | exact eA2 (by omega))
  case two =>
    intro Y tY hY tkY eY FY NY
    subst eY
    (try k_fold)
    k_steps
    unfold StopHere
    k_dflt (refine' cutSet (Str.ofString "size") (· = mlS (533 + if y < 0 then -y else y) l) ?ldF ?ldN ?thr ?fou; (case ldF => k_asm); (case ldN => k_asm))
    case thr =>
      clear hmk
      k_steps
      all_goals (k_dflt (first | refine setR_end (by k_asm) (by k_asm) ?_ | refine setR_same (by k_asm) rfl (by k_asm) ?_))
      all_goals (law_clear; first | exact eS1 (by omega) (by assumption) | exact eS2 (by omega) (by assumption) | exact eS3 (by omega))
    case fou =>
      intro Z tZ hZ tkZ eZ FZ NZ
      subst eZ
      have hbb := bS (533 + if y < 0 then -y else y) l
      clear hmk
      (try k_fold)
      k_steps
      all_goals (refine hret _ [] _ _ ⟨rfl, congrArg Value.bool ?_⟩ (by k_asm) ((by assumption : ∀ tl, News _ _ _ tl → News _ _ _ (tl ++ _)) [] News.nil) (fun _ h => nomatch h))
      all_goals (first | rfl | (exfalso; law_clear; omega))
-- part CEL
theorem ln_CEL_1 : True := by
  k_with_none
  (k_with "execs cons" => (k_here; (try dsimp only); k_gentoks))
  (k_with "execs nil" => (k_here; (try dsimp only); k_gentoks))
  trivial
set_option maxHeartbeats 0 in
theorem c_cell {w : World} {mean : ExcName → Option Value} {mg mb : Str → Option Value} {dp un : Nat} {gd : Option (List Code)} {cn : Str} {cs : Scope} {a : Addr} {ccd : Value} {cl : List (Str × Addr)} {outer : List Env} {A₀ : Around} {base h₀ : Heap} {L : Addr} {m : Str → Option Value} {news : List (Addr × Obj)} {s : Shared} {Q E : Value → Shared → Prop} {sa : Addr} {vs : List Value} {ns : List Int} {k : Int} {tk : Tok}
    (hL : h₀.IsList sa vs.toArray) (hI : IntsAre vs ns) (hlen : ns.length ≤ 63) (h0 : 0 ≤ k ∧ k < 100) (B : Below A₀ base outer h₀) (F : Fr h₀ L s.heap m) (N : News h₀ L s.heap news) (T : Top q0 Lo mean mg mb h₀) (hk : cs.kind = .function) (hd : dp + 2 < recursionLimit) (hu : un + 8 * 2 < cLine)
    (hret : ∀ t h' tk', Fr h₀ L h' m → News h₀ L h' news → Q (.int (cellAt ns k 0) t) { s with heap := h', toks := tk' }) :
    (KO w.params).In h₀ → wpAny (model Challenge.rw_ja0024_01.row.prog w) (ktrTop dp un gd cn cs L a ccd cl outer) (PySem.call (.ref 371) [.ref sa, .int k tk]) Q E s := by
  k_fill
  w_on
  intro X
  refine wpAny_call ?_
  k_dflt (refine' code_p ?k1 ?k2 ?k3 ?k4 ?k5 ?kA ?kF ?kK ?k6 ?k7 ?k8 ?k9 ?kB ?_ ?c2 ?c3 ?c4 ?c5; (case kA => exact rfl); (case kF => exact rfl); (case kK => assumption); (case k1 => k_asm); (case k2 => k_asm); (case k3 => k_asm); (case k4 => k_asm); (case k5 => k_asm); (case k6 => k_is); (case k7 => k_is); (case k8 => first | exact Nat.lt_of_le_of_lt (Nat.le_add_right _ _) (by assumption) | ktr_room); (case k9 => first | exact BindsTo.of_eq rfl | exact binds_K (by k_in) rfl (by k_is) rfl rfl rfl); (case c5 => decide); (case kB => exact locs rfl); (case c2 => exact rfl); (case c3 => exact rfl); (case c4 => exact rfl); k_whole; intro g' L' h' FG' F' N' B' X' T'; (try dsimp only); (try k_lift B'); (try k_fold))
  have hL9 : g'.IsList sa vs.toArray := stays_list (fun b o e => FG'.keep b o e) hL
  k_steps
  · rw [cell_in (d := 0) h0.1 (by omega)]; exact hret _ _ _ (by k_asm) ((by assumption : ∀ tl, News _ _ _ tl → News _ _ _ (tl ++ _)) [] News.nil)
  · rw [show (0 : Int) = cellAt ns k 0 from cell_out h0.1 (by omega)]; exact hret _ _ _ (by k_asm) ((by assumption : ∀ tl, News _ _ _ tl → News _ _ _ (tl ++ _)) [] News.nil)
-- part RN
section
variable {prog : Program} {w : World} {A : Around} {E : Value → Shared → Prop} {s : Shared} {env : Env} {h₀ : Heap} {x : Str} {body : List Stmt} {Q : Flow → Shared → Prop}
/-- a loop over a range that stores nothing but its own name -/
theorem rng_none {rg : Addr} {a₀ b₀ : Int} {t₀ u₀ v₀ : Tok} {n : Nat} {m₀ : Str → Option Value}
    (hh : A.handled = none) (hr : IsRange s.heap rg a₀ b₀ 1 t₀ u₀ v₀) (hs : Builtin.Range.small a₀ b₀ 1 = true) (hn : Builtin.Range.rangeSize a₀ b₀ 1 = (n : Int))
    (F : Fr h₀ env.locals s.heap m₀) (N : News h₀ env.locals s.heap [])
    (turn : ∀ (i : Nat) (t : Tok) (s₁ : Shared) (own : List (Addr × Obj)) (Q' : Flow → Shared → Prop), i < n → Fr h₀ env.locals s₁.heap (fun z => if z = x then some (.int (a₀ + i) t) else m₀ z) → News h₀ env.locals s₁.heap own →
      (∀ (h' : Heap) (tk' : Nat), Fr h₀ env.locals h' (fun z => if z = x then some (.int (a₀ + i) t) else m₀ z) → News h₀ env.locals h' own → Q' .next { s₁ with heap := h', toks := tk' }) →
      wpAny (model prog w) A (execs body env) Q' E s₁)
    (done : ∀ (u : Str → Option Value) (h : Heap) (tk : Nat), Fr h₀ env.locals h (fun z => if z = x then u z else m₀ z) → News h₀ env.locals h [] → Q .next { s with heap := h, toks := tk }) :
    wpAny (model prog w) A (pyIter (.ref rg)) (fun it s₂ => LoopAtV prog w A h₀ env x body Q E it s₂) E s := by
  refine tbr_invG (fun _ m nx => nx = [] ∧ ∀ z, z ≠ x → m z = m₀ z) hh hr hs hn F N ⟨rfl, fun _ _ => rfl⟩ ?_ ?_
  · rintro i k t m₁ nx h tk own hk hoff ⟨rfl, hm⟩ F₁ N₁
    have hi : i < n ∧ k = a₀ + (i : Int) := by
      unfold rangeKs at hk
      rw [List.getElem?_map] at hk
      by_cases h : i < n
      · rw [List.getElem?_range h] at hk; exact ⟨h, (Option.some.inj hk).symm⟩
      · rw [List.getElem?_eq_none (by simpa using h)] at hk; cases hk
    obtain ⟨hi, rfl⟩ := hi
    have e : (fun z => if z = x then some (Value.int (a₀ + (i : Int)) t) else m₁ z) = fun z => if z = x then some (.int (a₀ + i) t) else m₀ z := by
      funext z
      by_cases h1 : z = x
      · rw [if_pos h1, if_pos h1]
      · rw [if_neg h1, if_neg h1, hm z h1]
    rw [e] at F₁
    refine turn i t _ own _ hi F₁ N₁ fun h' tk' F' N' => ⟨h', tk', _, _, [], rfl, F', N', ?_, ?_, ?_, rfl, fun z hz => if_neg hz⟩
    · exact fun p hp => nomatch hp
    · exact fun p hp => hp
    · exact fun p _ q hq => nomatch hq
  · rintro m₁ nx h tk ⟨rfl, hm⟩ F₁ N₁
    have e : m₁ = fun z => if z = x then m₁ z else m₀ z := by
      funext z
      by_cases h1 : z = x
      · rw [if_pos h1]
      · rw [if_neg h1, hm z h1]
    rw [e] at F₁
    exact done m₁ h tk F₁ N₁
end
-- part LAW
theorem p12 : (10 : Int) ^ Int.toNat 12 = 1000000000000 := by decide +kernel
theorem fm12 (x : Int) : 0 ≤ Int.fmod x (10 ^ Int.toNat 12) ∧ Int.fmod x (10 ^ Int.toNat 12) < 1000000000000 := by
  rw [p12]
  rw [Int.fmod_eq_emod_of_nonneg x (by decide : (0 : Int) ≤ 1000000000000)]
  exact ⟨Int.emod_nonneg x (by decide), Int.emod_lt_of_pos x (by decide)⟩
theorem turn_fr {h₀ h₁ h' : Heap} {L : Addr} {m : Str → Option Value} (T : KtsTurn (frs []) h₀ h₁) (F : Fr h₁ L h' m) : Fr h₀ L h' m :=
  ⟨F.ns, fun b o e => F.keep b o (T.other b o e (fun q => nomatch q)), by rw [← T.size]; exact F.above⟩
theorem wd_a (x : Int) : -1 ≤ Int.fmod x 7 ∧ Int.fmod x 7 ≤ 7 := by
  rw [Int.fmod_eq_emod_of_nonneg x (by decide)]; omega
theorem wd_b (x : Int) : -1 ≤ Int.fmod x 9 - 1 ∧ Int.fmod x 9 - 1 ≤ 7 := by
  rw [Int.fmod_eq_emod_of_nonneg x (by decide)]; omega
theorem c_mm (i : Nat) (y m l : Int) (ty tm tl : Tok) (tk : Tok) (hi : i < 7) (h0 : 1 ≤ m ∧ m ≤ 12) (h1 : 1 ≤ l ∧ l ≤ 13) : Con 24 406 [.int (0 + (i : Int)) tk, .int y ty, .int m tm, .int l tl] (PB true) := by
  have hc : i = 0 ∨ i = 1 ∨ i = 2 ∨ i = 3 ∨ i = 4 ∨ i = 5 ∨ i = 6 := by omega
  rcases hc with rfl | rfl | rfl | rfl | rfl | rfl | rfl
  · exact c_m0 y m l ty tm tl tk h0
  · exact c_m1 y m l ty tm tl tk h0
  · exact c_m2 y m l ty tm tl tk h0
  · exact c_m3 y m l ty tm tl tk h1
  · exact c_m4 y m l ty tm tl tk h0
  · exact c_m5 y m l ty tm tl tk h1
  · exact c_m6 y m l ty tm tl tk h1
theorem ln_LAW_1 : True := by
  k_with_none
  (k_with "execs cons" => (k_here; (try dsimp only); k_gentoks))
  (k_with "execs nil" => (k_here; (try dsimp only); k_gentoks))
  (k_with "call ref" => (k_here; k_dflt (refine' con_int (c_jwday _ _) ?k1Zq ?k2Zq ?k3Zq ?k4Zq ?k5Zq ?kKZq ?kdZq ?kuZq ?_; (case k1Zq => k_asm); (case k2Zq => k_asm); (case k3Zq => k_asm); (case k4Zq => k_asm); (case k5Zq => k_asm); (case kKZq => first | exact rfl | assumption); (case kdZq => first | exact room_of (by assumption) (by rfl) | ktr_room); (case kuZq => first | exact units_of (by assumption) (by rfl) | ktr_units)); intro t9 h9 tk9 F9 N9; (try dsimp only); (try k_fold); walk_say "USE c_jwday"))
  (k_with "call ref" => (k_here; k_dflt (refine' con_bool (c_mm _ _ _ _ _ _ _ _ ?p0Zq ?p1Zq ?p2Zq) ?k1Zq ?k2Zq ?k3Zq ?k4Zq ?k5Zq ?kKZq ?kdZq ?kuZq ?_; (case p0Zq => assumption); (case p1Zq => first | assumption | omega | l_fact); (case p2Zq => first | assumption | omega | l_fact); (case k1Zq => k_asm); (case k2Zq => k_asm); (case k3Zq => k_asm); (case k4Zq => k_asm); (case k5Zq => k_asm); (case kKZq => first | exact rfl | assumption); (case kdZq => first | exact room_of (by assumption) (by rfl) | ktr_room); (case kuZq => first | exact units_of (by assumption) (by rfl) | ktr_units)); intro h9 tk9 F9 N9; (try dsimp only); (try k_fold); walk_say "USE c_mm"))
  (k_with "call ref" => (k_here; k_dflt (refine' con_bool (c_heb _ _ _ _ ?p0Zq ?p1Zq) ?k1Zq ?k2Zq ?k3Zq ?k4Zq ?k5Zq ?kKZq ?kdZq ?kuZq ?_; (case p0Zq => first | assumption | omega | l_fact); (case p1Zq => first | assumption | omega | l_fact); (case k1Zq => k_asm); (case k2Zq => k_asm); (case k3Zq => k_asm); (case k4Zq => k_asm); (case k5Zq => k_asm); (case kKZq => first | exact rfl | assumption); (case kdZq => first | exact room_of (by assumption) (by rfl) | ktr_room); (case kuZq => first | exact units_of (by assumption) (by rfl) | ktr_units)); intro h9 tk9 F9 N9; (try dsimp only); (try k_fold); walk_say "USE c_heb"))
  (k_with "call ref" => (k_here; k_dflt (refine' con_bool (c_search _ _ _ _ _ _ ?p0Zq ?p1Zq ?p2Zq) ?k1Zq ?k2Zq ?k3Zq ?k4Zq ?k5Zq ?kKZq ?kdZq ?kuZq ?_; (case p0Zq => first | assumption | omega | l_fact); (case p1Zq => first | assumption | omega | l_fact); (case p2Zq => first | assumption | omega | l_fact); (case k1Zq => k_asm); (case k2Zq => k_asm); (case k3Zq => k_asm); (case k4Zq => k_asm); (case k5Zq => k_asm); (case kKZq => first | exact rfl | assumption); (case kdZq => first | exact room_of (by assumption) (by rfl) | ktr_room); (case kuZq => first | exact units_of (by assumption) (by rfl) | ktr_units)); intro h9 tk9 F9 N9; (try dsimp only); (try k_fold); walk_say "USE c_search"))
  (k_with "call ref" => (k_here; k_dflt (refine' conK_bool (c_nr _ _ _ _ _ _ _ _ ?p0Zq ?p1Zq ?p2Zq) ?k1Zq ?k2Zq ?k3Zq ?k4Zq ?k5Zq ?kXBZq ?kTBZq ?kDZq ?kKZq ?kdZq ?kuZq ?_; (case p0Zq => first | assumption | omega | l_fact); (case p1Zq => first | assumption | omega | l_fact); (case p2Zq => first | assumption | omega | l_fact); (case k1Zq => k_asm); (case k2Zq => k_asm); (case k3Zq => k_asm); (case k4Zq => k_asm); (case k5Zq => k_asm); (case kXBZq => assumption); (case kTBZq => assumption); (case kDZq => first | assumption | exact ktsDicts_nil); (case kKZq => first | exact rfl | assumption); (case kdZq => first | exact room_of (by assumption) (by rfl) | ktr_room); (case kuZq => first | exact units_of (by assumption) (by rfl) | ktr_units)); intro h0' h9 tk9 K9 F9 N9 B9 X9 T9 D9; (have FX9 := turn_fr K9 F9); (try dsimp only); (try k_fold); walk_say "USE c_nr"))
  (k_with "call ref" => (k_here; k_dflt (refine' c_cell ?hLZq ?hIZq ?hlZq ?h0Zq ?k1Zq ?k2Zq ?k4Zq ?k5Zq ?kKZq ?kdZq ?kuZq ?_ ?k3Zq; (case hLZq => assumption); (case hIZq => assumption); (case hlZq => omega); (case h0Zq => decide); (case k1Zq => k_asm); (case k2Zq => k_asm); (case k3Zq => k_asm); (case k4Zq => k_asm); (case k5Zq => k_asm); (case kKZq => first | exact rfl | assumption); (case kdZq => first | exact room_of (by assumption) (by rfl) | ktr_room); (case kuZq => first | exact units_of (by assumption) (by rfl) | ktr_units)); intro t9 h9 tk9 F9 N9; (try dsimp only); (try k_fold); walk_say "USE c_cell"))
  (k_with "eval BinOp" => (k_here; (fail_if_success (fail_if_success (have mk9 : GoMark := by with_reducible assumption))); (with_reducible show wpAny _ _ (eval (Expr.BinOp _ Operator.Mod (Expr.BinOp (Expr.Constant (Const.int 10) _ _) Operator.Pow (Expr.Constant (Const.int 12) _ _) _) _) _) _ _ _); refine stop_here ?_))
  (k_with "eval IfExp" => (k_here; (fail_if_success (fail_if_success (have mk9 : GoMark := by with_reducible assumption))); (with_reducible show wpAny _ (Around.deeper callerA _) (eval (Expr.IfExp _ _ _ _) _) _ _ _); refine stop_here ?_))
  (k_with "eval Subscript" => (k_here; (fail_if_success (fail_if_success (have mk9 : GoMark := by with_reducible assumption))); (with_reducible show wpAny _ _ (eval (Expr.Subscript (Expr.List _ _) _ _) _) _ _ _); refine stop_here ?_))
  (k_with "pyIter ref" => (k_here; (fail_if_success (fail_if_success (have mk9 : GoMark := by with_reducible assumption))); refine stop_here ?_))
  (k_with "eval Call" => (k_here; with_unfolding_all refine Call_ ?_))
  trivial
set_option maxHeartbeats 0 in
theorem law_ok : PySem.Challenge.rw_ja0024_01.Holds := by
  refine hdO (by rfl) (by rfl) (by rfl) ?_
  have hmk := goMark
  k_go0
  (all_goals try k_fold)
  k_steps
  unfold StopHere
  k_dflt (refine' cutInt (fun _ => True) ?lcF ?lcN ?one ?two; (case lcF => k_asm); (case lcN => k_asm))
  case one =>
    clear hmk
    k_dflt (refine IfExp_ ?_)
    k_steps
    all_goals (k_dflt (refine intR_end (by k_asm) (by k_asm) trivial))
  case two =>
    intro Y tY hY tkY _ FY NY
    (try k_fold)
    k_steps
    unfold StopHere
    k_dflt (refine' rng_none (n := 7) ?rhh ?rhr ?rhs ?rhn ?rF ?rN ?rturn ?rdone; (case rhh => exact rfl); (case rhr => assumption); (case rhs => decide); (case rhn => decide); (case rF => k_asm); (case rN => k_asm))
    case rturn =>
      clear hmk
      intro i9 t9 s9 own9 Q9 hi9 F9 N9 hq9
      k_steps
      all_goals (exact hq9 _ _ (by k_asm) (by k_asm))
    case rdone =>
      intro u9 h9 tk9 F9 N9
      (try dsimp only)
      (try k_fold)
      k_steps
      unfold StopHere
      k_dflt (refine' cutInt (fun Y => 0 ≤ Y ∧ Y < 1000000000000) ?ldF ?ldN ?thr ?fou; (case ldF => k_asm); (case ldN => k_asm))
      case thr =>
        clear hmk
        k_dflt (refine wpAny_BinOp ?_)
        k_steps
        all_goals (k_dflt (refine intR_end (by k_asm) (by k_asm) (fm12 _)))
      case fou =>
        intro J tJ hJ tkJ bJ FJ NJ
        (try k_fold)
        k_steps
        unfold StopHere
        k_dflt (refine' cutInt (fun Y => -1 ≤ Y ∧ Y ≤ 7) ?leF ?leN ?fiv ?six; (case leF => k_asm); (case leN => k_asm))
        case fiv =>
          clear hmk
          k_steps
          all_goals (k_dflt (refine intR_end (by k_asm) (by first | k_asm | exact fun q hq => (by assumption : News _ _ _ (_ :: _)) q (.tail _ hq)) (by first | exact wd_a _ | exact wd_b _)))
        case six =>
          intro Z tZ hZ tkZ bZ FZ NZ
          (try k_fold)
          k_steps
          (all_goals (try k_data))
          all_goals w_report
end Mine
theorem PySem.Challenge.cw_ja0024_01_holds : PySem.Challenge.rw_ja0024_01.Holds :=
  Mine.law_ok
