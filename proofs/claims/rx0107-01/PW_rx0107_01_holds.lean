import PyProof.Rows.All
import Wide.All
import OpenK.AllK
import Wide.FinOn
import Open.Tops
import PySem.Challenge.RW_rx0107_01
set_option Elab.async false
set_option compiler.extract_closed false
set_option maxRecDepth 100000
namespace Mine
section
open PySem PySem.W PyProof.Rows
set_option maxRecDepth 100000
noncomputable def stm (i : Nat) : Stmt := (PySem.Challenge.pw_rx0107_01.main.body)[i]?.getD (Stmt.Pass ⟨0, 0, 0, 0⟩)
noncomputable def fnAr : Stmt → Arguments
  | .FunctionDef _ a _ _ _ _ _ _ _ _ => a
  | _ => ⟨[], [], none, [], [], none, []⟩
noncomputable def fnBd : Stmt → List Stmt
  | .FunctionDef _ _ b _ _ _ _ _ _ _ => b
  | _ => []
noncomputable def fnSc : Stmt → Scope
  | .FunctionDef _ _ _ _ _ _ s _ _ _ => s
  | _ => { kind := .module, names := [], isGenerator := false, isCoroutine := false, more := [] }
noncomputable abbrev fobj (ar : Arguments) (bd : List Stmt) (sc : Scope) (nm : String) (pm : String) (pt : Tok) (cd : Addr) : Obj :=
  { cls := .type "function", data := .func (fnOf (Str.ofString nm) (Str.ofString nm) ar bd sc .none .none .none (.str (Str.ofString pm) pt) none (.ref cd) .none) }
noncomputable abbrev tup (vs : List Value) : Obj := { cls := .type "tuple", data := .seq vs.toArray }
noncomputable abbrev sv (x : String) (t : Tok) : Value := .str (Str.ofString x) t
noncomputable abbrev iv (i : Int) : Value := .int i 0
noncomputable abbrev cobj (nm : String) (t : Tok) (line nargs fl : Int) (base : Addr) (vn ct fn : Value) (t2 : Tok) (z : Int) : Obj :=
  { cls := .type "code", data := .fields #[sv nm t, sv nm (t + 1), sv "/claim/cut.py" (t + 2), iv line, iv nargs, iv 0, iv 0, iv fl, .ref base, .bool true, iv z, .ref (base + 1), .none, vn, ct, fn, iv t2, iv line, sv "/claim/cut.py" (t2 + 1)] }
noncomputable abbrev nsE (P : Params) (x : String) (t : Tok) (v : Value) : DictEntry := ⟨PyData.keyHash P (Str.ofString x), .str (Str.ofString x) t, v⟩
noncomputable def exprI : PySem.Expr → Int
  | .Constant (.int i) _ _ => i
  | _ => 0
noncomputable def exprS : PySem.Expr → Str
  | .Constant (.str x) _ _ => x
  | _ => ⟨#[]⟩
noncomputable def tab88 : List (Int × Str) := match stm 13 with
  | .Assign _ (.Dict ks vs _) _ => (ks.map fun k => (k.map exprI).getD 0).zip (vs.map exprS)
  | _ => []
noncomputable def ents (st : Nat) : Tok → List (Int × Str) → List DictEntry
  | _, [] => []
  | t, kv :: r => ⟨hashInt kv.1, .int kv.1 t, .str kv.2 (t + 1)⟩ :: ents st (t + st) r
noncomputable def es88 : List DictEntry := ents 3 589 (tab88.take 646) ++ ents 2 2527 (tab88.drop 646)
noncomputable def specials : List Int := [40, 41, 91, 93, 123, 125, 63, 42, 43, 45, 124, 94, 36, 92, 46, 38, 126, 35, 32, 9, 10, 13, 11, 12]
noncomputable def ents45 : Tok → List Int → List DictEntry
  | _, [] => []
  | t, c :: r => ⟨hashInt c, .int c t, .str ⟨#[92, c.toNat]⟩ (t + 4)⟩ :: ents45 (t + 6) r
noncomputable def es45 : List DictEntry := ents45 334 specials

noncomputable abbrev ob3 (P : Params) : Obj := { cls := .type "dict", data := .dict [nsE P "__name__" 165 (sv "law_rx0107_01" 2548), nsE P "__doc__" 166 .none, nsE P "__package__" 167 .none, nsE P "__loader__" 168 (.builtin "__main__.__loader__#opaque"), nsE P "__spec__" 169 .none, nsE P "__annotations__" 170 (.ref 6), nsE P "__builtins__" 171 (.ref 4), nsE P "__file__" 173 (sv "/claim/cut.py" 172), nsE P "__cached__" 174 .none, nsE P "_sre" 275 (.ref 12), nsE P "_twin_re_1" 321 (.ref 36), nsE P "translate" 330 (.ref 43), nsE P "_special_chars_map" 478 (.ref 45), nsE P "escape" 485 (.ref 55), nsE P "_translate" 506 (.ref 62), nsE P "_join_translated_parts" 519 (.ref 69), nsE P "b1_set" 581 (.ref 77), nsE P "in_table_b1" 588 (.ref 87), nsE P "b3_exceptions" 2539 (.ref 88), nsE P "map_table_b3" 2547 (.ref 133), nsE P "_law_several" 2555 (.ref 140), nsE P "_law_nothing" 2561 (.ref 147), nsE P "_law_piece" 2576 (.ref 154), nsE P "_law_prepared" 2582 (.ref 159), nsE P "_law_row" 2593 (.ref 166), nsE P "_law_runs" 2599 (.ref 171), nsE P "_law_text" 2605 (.ref 176), nsE P "law" 2611 (.ref 181)].toArray 28 }
noncomputable abbrev ob35 : Obj := tup [iv 14, iv 14, iv 4, iv 1, iv 1, iv 9, iv 0, iv 64, iv 0, iv 1342177280, iv 0, iv 0, iv 0, iv 0, iv 0, iv 17, iv 0, iv 13, iv 11, iv 9, iv 0, iv 64, iv 0, iv 1342177280, iv 0, iv 0, iv 0, iv 0, iv 0, iv 17, iv 1, iv 1]
noncomputable abbrev ob36 : Obj := { cls := .type "re.Pattern", data := .fields #[sv "([&~|])" 285, .int 32 320, iv 1, .none, .none, .ref 35, iv 0] }
noncomputable abbrev ob45 : Obj := { cls := .type "dict", data := .dict es45.toArray 24 }
noncomputable abbrev es77 : List (Int × Value) := [(65024, .int 65024 538), (65025, .int 65025 539), (65026, .int 65026 540), (65027, .int 65027 541), (65028, .int 65028 542), (65029, .int 65029 543), (6150, .int 6150 524), (65030, .int 65030 544), (65031, .int 65031 545), (65032, .int 65032 546), (65033, .int 65033 547), (6155, .int 6155 525), (6156, .int 6156 526), (6157, .int 6157 527), (8203, .int 8203 528), (8204, .int 8204 529), (8205, .int 8205 530), (65034, .int 65034 548), (65035, .int 65035 549), (65036, .int 65036 550), (65037, .int 65037 551), (65038, .int 65038 552), (65039, .int 65039 553), (173, .int 173 522), (847, .int 847 523), (8288, .int 8288 531), (65279, .int 65279 532)]
noncomputable abbrev ob77 (P : Params) : Obj := { cls := .type "set", data := .set es77.toArray 29 { mask := 127, place := #[0, 1, 2, 3, 4, 5, 6, 7, 8, 9, 10, 11, 12, 13, 14, 15, 16, 17, 18, 19, 20, 21, 22, 45, 79, 96, 127], dummies := #[], finger := 0, led := !P.followText "set-order", moves := 2, plain := true } }
noncomputable abbrev ob88 : Obj := { cls := .type "dict", data := .dict es88.toArray 650 }
@[reducible] noncomputable def ar3 : Arguments := by
  refine Subtype.val (p := fun b => b = fnAr (stm 3)) ⟨?b, ?h⟩
  rotate_left
  · conv => rhs; whnf
@[reducible] noncomputable def bd3 : List Stmt := by
  refine Subtype.val (p := fun b => b = fnBd (stm 3)) ⟨?b, ?h⟩
  rotate_left
  · conv => rhs; whnf
@[reducible] noncomputable def sc3 : Scope := by
  refine Subtype.val (p := fun b => b = fnSc (stm 3)) ⟨?b, ?h⟩
  rotate_left
  · conv => rhs; whnf
noncomputable abbrev ob37 : Obj := tup []
noncomputable abbrev ob39 : Obj := tup [sv "pat" 325, sv "STAR" 326, sv "parts" 327]
noncomputable abbrev ob40 : Obj := tup []
noncomputable abbrev ob42 : Obj := cobj "translate" 322 4 1 3 37 (.ref 39) (.ref 40) (.ref 41) 328 276
noncomputable abbrev ob43 : Obj := fobj ar3 bd3 sc3 "translate" "cpy313.fnmatch" 282 42
@[reducible] noncomputable def ar6 : Arguments := by
  refine Subtype.val (p := fun b => b = fnAr (stm 6)) ⟨?b, ?h⟩
  rotate_left
  · conv => rhs; whnf
@[reducible] noncomputable def bd6 : List Stmt := by
  refine Subtype.val (p := fun b => b = fnBd (stm 6)) ⟨?b, ?h⟩
  rotate_left
  · conv => rhs; whnf
@[reducible] noncomputable def sc6 : Scope := by
  refine Subtype.val (p := fun b => b = fnSc (stm 6)) ⟨?b, ?h⟩
  rotate_left
  · conv => rhs; whnf
noncomputable abbrev ob49 : Obj := tup []
noncomputable abbrev ob51 : Obj := tup [sv "pattern" 482]
noncomputable abbrev ob52 : Obj := tup []
noncomputable abbrev ob54 : Obj := cobj "escape" 479 10 1 3 49 (.ref 51) (.ref 52) (.ref 53) 483 276
noncomputable abbrev ob55 : Obj := fobj ar6 bd6 sc6 "escape" "re" 331 54
@[reducible] noncomputable def ar8 : Arguments := by
  refine Subtype.val (p := fun b => b = fnAr (stm 8)) ⟨?b, ?h⟩
  rotate_left
  · conv => rhs; whnf
@[reducible] noncomputable def bd8 : List Stmt := by
  refine Subtype.val (p := fun b => b = fnBd (stm 8)) ⟨?b, ?h⟩
  rotate_left
  · conv => rhs; whnf
@[reducible] noncomputable def sc8 : Scope := by
  refine Subtype.val (p := fun b => b = fnSc (stm 8)) ⟨?b, ?h⟩
  rotate_left
  · conv => rhs; whnf
noncomputable abbrev ob56 : Obj := tup []
noncomputable abbrev ob58 : Obj := tup [sv "pat" 491, sv "STAR" 492, sv "QUESTION_MARK" 493, sv "res" 494, sv "add" 495, sv "i" 496, sv "n" 497, sv "c" 498, sv "j" 499, sv "stuff" 500, sv "chunks" 501, sv "k" 502, sv "chunk" 503]
noncomputable abbrev ob59 : Obj := tup []
noncomputable abbrev ob61 : Obj := cobj "_translate" 488 17 3 3 56 (.ref 58) (.ref 59) (.ref 60) 504 276
noncomputable abbrev ob62 : Obj := fobj ar8 bd8 sc8 "_translate" "cpy313.fnmatch" 486 61
@[reducible] noncomputable def ar9 : Arguments := by
  refine Subtype.val (p := fun b => b = fnAr (stm 9)) ⟨?b, ?h⟩
  rotate_left
  · conv => rhs; whnf
@[reducible] noncomputable def bd9 : List Stmt := by
  refine Subtype.val (p := fun b => b = fnBd (stm 9)) ⟨?b, ?h⟩
  rotate_left
  · conv => rhs; whnf
@[reducible] noncomputable def sc9 : Scope := by
  refine Subtype.val (p := fun b => b = fnSc (stm 9)) ⟨?b, ?h⟩
  rotate_left
  · conv => rhs; whnf
noncomputable abbrev ob63 : Obj := tup []
noncomputable abbrev ob65 : Obj := tup [sv "inp" 510, sv "STAR" 511, sv "res" 512, sv "add" 513, sv "i" 514, sv "n" 515, sv "fixed" 516]
noncomputable abbrev ob66 : Obj := tup []
noncomputable abbrev ob68 : Obj := cobj "_join_translated_parts" 507 79 2 3 63 (.ref 65) (.ref 66) (.ref 67) 517 276
noncomputable abbrev ob69 : Obj := fobj ar9 bd9 sc9 "_join_translated_parts" "cpy313.fnmatch" 486 68
@[reducible] noncomputable def ar12 : Arguments := by
  refine Subtype.val (p := fun b => b = fnAr (stm 12)) ⟨?b, ?h⟩
  rotate_left
  · conv => rhs; whnf
@[reducible] noncomputable def bd12 : List Stmt := by
  refine Subtype.val (p := fun b => b = fnBd (stm 12)) ⟨?b, ?h⟩
  rotate_left
  · conv => rhs; whnf
@[reducible] noncomputable def sc12 : Scope := by
  refine Subtype.val (p := fun b => b = fnSc (stm 12)) ⟨?b, ?h⟩
  rotate_left
  · conv => rhs; whnf
noncomputable abbrev ob81 : Obj := tup []
noncomputable abbrev ob83 : Obj := tup [sv "code" 585]
noncomputable abbrev ob84 : Obj := tup []
noncomputable abbrev ob86 : Obj := cobj "in_table_b1" 582 108 1 3 81 (.ref 83) (.ref 84) (.ref 85) 586 276
noncomputable abbrev ob87 : Obj := fobj ar12 bd12 sc12 "in_table_b1" "cpy313.stringprep" 520 86
@[reducible] noncomputable def ar14 : Arguments := by
  refine Subtype.val (p := fun b => b = fnAr (stm 14)) ⟨?b, ?h⟩
  rotate_left
  · conv => rhs; whnf
@[reducible] noncomputable def bd14 : List Stmt := by
  refine Subtype.val (p := fun b => b = fnBd (stm 14)) ⟨?b, ?h⟩
  rotate_left
  · conv => rhs; whnf
@[reducible] noncomputable def sc14 : Scope := by
  refine Subtype.val (p := fun b => b = fnSc (stm 14)) ⟨?b, ?h⟩
  rotate_left
  · conv => rhs; whnf
noncomputable abbrev ob127 : Obj := tup []
noncomputable abbrev ob129 : Obj := tup [sv "code" 2543, sv "r" 2544]
noncomputable abbrev ob130 : Obj := tup []
noncomputable abbrev ob132 : Obj := cobj "map_table_b3" 2540 111 1 3 127 (.ref 129) (.ref 130) (.ref 131) 2545 276
noncomputable abbrev ob133 : Obj := fobj ar14 bd14 sc14 "map_table_b3" "cpy313.stringprep" 520 132
@[reducible] noncomputable def ar16 : Arguments := by
  refine Subtype.val (p := fun b => b = fnAr (stm 16)) ⟨?b, ?h⟩
  rotate_left
  · conv => rhs; whnf
@[reducible] noncomputable def bd16 : List Stmt := by
  refine Subtype.val (p := fun b => b = fnBd (stm 16)) ⟨?b, ?h⟩
  rotate_left
  · conv => rhs; whnf
@[reducible] noncomputable def sc16 : Scope := by
  refine Subtype.val (p := fun b => b = fnSc (stm 16)) ⟨?b, ?h⟩
  rotate_left
  · conv => rhs; whnf
noncomputable abbrev ob134 : Obj := tup []
noncomputable abbrev ob136 : Obj := tup []
noncomputable abbrev ob137 : Obj := tup []
noncomputable abbrev ob139 : Obj := cobj "_law_several" 2550 117 0 3 134 (.ref 136) (.ref 137) (.ref 138) 2553 276
noncomputable abbrev ob140 : Obj := fobj ar16 bd16 sc16 "_law_several" "law_rx0107_01" 2548 139
@[reducible] noncomputable def ar17 : Arguments := by
  refine Subtype.val (p := fun b => b = fnAr (stm 17)) ⟨?b, ?h⟩
  rotate_left
  · conv => rhs; whnf
@[reducible] noncomputable def bd17 : List Stmt := by
  refine Subtype.val (p := fun b => b = fnBd (stm 17)) ⟨?b, ?h⟩
  rotate_left
  · conv => rhs; whnf
@[reducible] noncomputable def sc17 : Scope := by
  refine Subtype.val (p := fun b => b = fnSc (stm 17)) ⟨?b, ?h⟩
  rotate_left
  · conv => rhs; whnf
noncomputable abbrev ob141 : Obj := tup []
noncomputable abbrev ob143 : Obj := tup []
noncomputable abbrev ob144 : Obj := tup []
noncomputable abbrev ob146 : Obj := cobj "_law_nothing" 2556 119 0 3 141 (.ref 143) (.ref 144) (.ref 145) 2559 276
noncomputable abbrev ob147 : Obj := fobj ar17 bd17 sc17 "_law_nothing" "law_rx0107_01" 2548 146
@[reducible] noncomputable def ar18 : Arguments := by
  refine Subtype.val (p := fun b => b = fnAr (stm 18)) ⟨?b, ?h⟩
  rotate_left
  · conv => rhs; whnf
@[reducible] noncomputable def bd18 : List Stmt := by
  refine Subtype.val (p := fun b => b = fnBd (stm 18)) ⟨?b, ?h⟩
  rotate_left
  · conv => rhs; whnf
@[reducible] noncomputable def sc18 : Scope := by
  refine Subtype.val (p := fun b => b = fnSc (stm 18)) ⟨?b, ?h⟩
  rotate_left
  · conv => rhs; whnf
noncomputable abbrev ob148 : Obj := tup []
noncomputable abbrev ob150 : Obj := tup [sv "cell" 2565, sv "kind" 2566, sv "rest" 2567, sv "small" 2568, sv "great" 2569, sv "text" 2570, sv "first" 2571, sv "code" 2572, sv "place" 2573]
noncomputable abbrev ob151 : Obj := tup []
noncomputable abbrev ob153 : Obj := cobj "_law_piece" 2562 121 1 3 148 (.ref 150) (.ref 151) (.ref 152) 2574 276
noncomputable abbrev ob154 : Obj := fobj ar18 bd18 sc18 "_law_piece" "law_rx0107_01" 2548 153
@[reducible] noncomputable def ar19 : Arguments := by
  refine Subtype.val (p := fun b => b = fnAr (stm 19)) ⟨?b, ?h⟩
  rotate_left
  · conv => rhs; whnf
@[reducible] noncomputable def bd19 : List Stmt := by
  refine Subtype.val (p := fun b => b = fnBd (stm 19)) ⟨?b, ?h⟩
  rotate_left
  · conv => rhs; whnf
@[reducible] noncomputable def sc19 : Scope := by
  refine Subtype.val (p := fun b => b = fnSc (stm 19)) ⟨?b, ?h⟩
  rotate_left
  · conv => rhs; whnf
noncomputable abbrev ob155 : Obj := tup []
noncomputable abbrev ob158 : Obj := cobj "_law_prepared" 2577 159 1 3 155 .none .none (.ref 157) 2580 276
noncomputable abbrev ob159 : Obj := fobj ar19 bd19 sc19 "_law_prepared" "law_rx0107_01" 2548 158
@[reducible] noncomputable def ar20 : Arguments := by
  refine Subtype.val (p := fun b => b = fnAr (stm 20)) ⟨?b, ?h⟩
  rotate_left
  · conv => rhs; whnf
@[reducible] noncomputable def bd20 : List Stmt := by
  refine Subtype.val (p := fun b => b = fnBd (stm 20)) ⟨?b, ?h⟩
  rotate_left
  · conv => rhs; whnf
@[reducible] noncomputable def sc20 : Scope := by
  refine Subtype.val (p := fun b => b = fnSc (stm 20)) ⟨?b, ?h⟩
  rotate_left
  · conv => rhs; whnf
noncomputable abbrev ob160 : Obj := tup []
noncomputable abbrev ob162 : Obj := tup [sv "parts" 2586, sv "rare" 2587, sv "row" 2588, sv "part" 2589, sv "text" 2590]
noncomputable abbrev ob163 : Obj := tup []
noncomputable abbrev ob165 : Obj := cobj "_law_row" 2583 161 1 3 160 (.ref 162) (.ref 163) (.ref 164) 2591 276
noncomputable abbrev ob166 : Obj := fobj ar20 bd20 sc20 "_law_row" "law_rx0107_01" 2548 165
@[reducible] noncomputable def ar21 : Arguments := by
  refine Subtype.val (p := fun b => b = fnAr (stm 21)) ⟨?b, ?h⟩
  rotate_left
  · conv => rhs; whnf
@[reducible] noncomputable def bd21 : List Stmt := by
  refine Subtype.val (p := fun b => b = fnBd (stm 21)) ⟨?b, ?h⟩
  rotate_left
  · conv => rhs; whnf
@[reducible] noncomputable def sc21 : Scope := by
  refine Subtype.val (p := fun b => b = fnSc (stm 21)) ⟨?b, ?h⟩
  rotate_left
  · conv => rhs; whnf
noncomputable abbrev ob167 : Obj := tup []
noncomputable abbrev ob170 : Obj := cobj "_law_runs" 2594 173 1 3 167 .none .none (.ref 169) 2597 276
noncomputable abbrev ob171 : Obj := fobj ar21 bd21 sc21 "_law_runs" "law_rx0107_01" 2548 170
@[reducible] noncomputable def ar22 : Arguments := by
  refine Subtype.val (p := fun b => b = fnAr (stm 22)) ⟨?b, ?h⟩
  rotate_left
  · conv => rhs; whnf
@[reducible] noncomputable def bd22 : List Stmt := by
  refine Subtype.val (p := fun b => b = fnBd (stm 22)) ⟨?b, ?h⟩
  rotate_left
  · conv => rhs; whnf
@[reducible] noncomputable def sc22 : Scope := by
  refine Subtype.val (p := fun b => b = fnSc (stm 22)) ⟨?b, ?h⟩
  rotate_left
  · conv => rhs; whnf
noncomputable abbrev ob172 : Obj := tup []
noncomputable abbrev ob175 : Obj := cobj "_law_text" 2600 200 1 3 172 .none .none (.ref 174) 2603 276
noncomputable abbrev ob176 : Obj := fobj ar22 bd22 sc22 "_law_text" "law_rx0107_01" 2548 175
@[reducible] noncomputable def ar23 : Arguments := by
  refine Subtype.val (p := fun b => b = fnAr (stm 23)) ⟨?b, ?h⟩
  rotate_left
  · conv => rhs; whnf
@[reducible] noncomputable def bd23 : List Stmt := by
  refine Subtype.val (p := fun b => b = fnBd (stm 23)) ⟨?b, ?h⟩
  rotate_left
  · conv => rhs; whnf
@[reducible] noncomputable def sc23 : Scope := by
  refine Subtype.val (p := fun b => b = fnSc (stm 23)) ⟨?b, ?h⟩
  rotate_left
  · conv => rhs; whnf
noncomputable abbrev ob177 : Obj := tup []
noncomputable abbrev ob180 : Obj := cobj "law" 2606 206 1 3 177 .none .none (.ref 179) 2609 276
noncomputable abbrev ob181 : Obj := fobj ar23 bd23 sc23 "law" "law_rx0107_01" 2548 180
noncomputable def K (P : Params) : Frag := (nat_lit 3, ob3 P) :: (nat_lit 35, ob35) :: (nat_lit 36, ob36) :: (nat_lit 37, ob37) :: (nat_lit 39, ob39) :: (nat_lit 40, ob40) :: (nat_lit 42, ob42) :: (nat_lit 43, ob43) :: (nat_lit 45, ob45) :: (nat_lit 49, ob49) :: (nat_lit 51, ob51) :: (nat_lit 52, ob52) :: (nat_lit 54, ob54) :: (nat_lit 55, ob55) :: (nat_lit 56, ob56) :: (nat_lit 58, ob58) :: (nat_lit 59, ob59) :: (nat_lit 61, ob61) :: (nat_lit 62, ob62) :: (nat_lit 63, ob63) :: (nat_lit 65, ob65) :: (nat_lit 66, ob66) :: (nat_lit 68, ob68) :: (nat_lit 69, ob69) :: (nat_lit 77, ob77 P) :: (nat_lit 81, ob81) :: (nat_lit 83, ob83) :: (nat_lit 84, ob84) :: (nat_lit 86, ob86) :: (nat_lit 87, ob87) :: (nat_lit 88, ob88) :: (nat_lit 127, ob127) :: (nat_lit 129, ob129) :: (nat_lit 130, ob130) :: (nat_lit 132, ob132) :: (nat_lit 133, ob133) :: (nat_lit 134, ob134) :: (nat_lit 136, ob136) :: (nat_lit 137, ob137) :: (nat_lit 139, ob139) :: (nat_lit 140, ob140) :: (nat_lit 141, ob141) :: (nat_lit 143, ob143) :: (nat_lit 144, ob144) :: (nat_lit 146, ob146) :: (nat_lit 147, ob147) :: (nat_lit 148, ob148) :: (nat_lit 150, ob150) :: (nat_lit 151, ob151) :: (nat_lit 153, ob153) :: (nat_lit 154, ob154) :: (nat_lit 155, ob155) :: (nat_lit 158, ob158) :: (nat_lit 159, ob159) :: (nat_lit 160, ob160) :: (nat_lit 162, ob162) :: (nat_lit 163, ob163) :: (nat_lit 165, ob165) :: (nat_lit 166, ob166) :: (nat_lit 167, ob167) :: (nat_lit 170, ob170) :: (nat_lit 171, ob171) :: (nat_lit 172, ob172) :: (nat_lit 175, ob175) :: (nat_lit 176, ob176) :: (nat_lit 177, ob177) :: (nat_lit 180, ob180) :: (nat_lit 181, ob181) :: []
end
section
open PySem PySem.W PyProof.Rows
set_option maxRecDepth 100000
noncomputable abbrev tmpl (ar : Arguments) (bd : List Stmt) (sc : Scope) (nm : String) : Obj := { cls := .none, data := .func { name := Str.ofString nm, qualname := Str.ofString nm, params := ar, body := .stmts bd, scope := sc, globals := 0, closure := [], defaults := .none, kwdefaults := .none } }
noncomputable def h0v0 (P : Params) : Obj := { cls := Value.type "dict", data := Data.dict #[{ hash := PyData.keyHash P (Str.ofString "__name__"), key := Value.str (Str.ofString "__name__") 1, val := Value.str (Str.ofString "builtins") 160 }, { hash := PyData.keyHash P (Str.ofString "__doc__"), key := Value.str (Str.ofString "__doc__") 2, val := Value.builtin "builtins.__doc__:str#opaque" }, { hash := PyData.keyHash P (Str.ofString "__package__"), key := Value.str (Str.ofString "__package__") 3, val := Value.builtin "builtins.__package__:str#opaque" }, { hash := PyData.keyHash P (Str.ofString "__loader__"), key := Value.str (Str.ofString "__loader__") 4, val := Value.builtin "builtins.__loader__:shared#opaque" }, { hash := PyData.keyHash P (Str.ofString "__spec__"), key := Value.str (Str.ofString "__spec__") 5, val := Value.builtin "builtins.__spec__#opaque" }, { hash := PyData.keyHash P (Str.ofString "__build_class__"), key := Value.str (Str.ofString "__build_class__") 6, val := Value.builtin "__build_class__" }, { hash := PyData.keyHash P (Str.ofString "__import__"), key := Value.str (Str.ofString "__import__") 7, val := Value.builtin "__import__" }, { hash := PyData.keyHash P (Str.ofString "abs"), key := Value.str (Str.ofString "abs") 8, val := Value.builtin "abs" }, { hash := PyData.keyHash P (Str.ofString "all"), key := Value.str (Str.ofString "all") 9, val := Value.builtin "all" }, { hash := PyData.keyHash P (Str.ofString "any"), key := Value.str (Str.ofString "any") 10, val := Value.builtin "any" }, { hash := PyData.keyHash P (Str.ofString "ascii"), key := Value.str (Str.ofString "ascii") 11, val := Value.builtin "ascii" }, { hash := PyData.keyHash P (Str.ofString "bin"), key := Value.str (Str.ofString "bin") 12, val := Value.builtin "bin" }, { hash := PyData.keyHash P (Str.ofString "breakpoint"), key := Value.str (Str.ofString "breakpoint") 13, val := Value.builtin "breakpoint" }, { hash := PyData.keyHash P (Str.ofString "callable"), key := Value.str (Str.ofString "callable") 14, val := Value.builtin "callable" }, { hash := PyData.keyHash P (Str.ofString "chr"), key := Value.str (Str.ofString "chr") 15, val := Value.builtin "chr" }, { hash := PyData.keyHash P (Str.ofString "compile"), key := Value.str (Str.ofString "compile") 16, val := Value.builtin "compile" }, { hash := PyData.keyHash P (Str.ofString "delattr"), key := Value.str (Str.ofString "delattr") 17, val := Value.builtin "delattr" }, { hash := PyData.keyHash P (Str.ofString "dir"), key := Value.str (Str.ofString "dir") 18, val := Value.builtin "dir" }, { hash := PyData.keyHash P (Str.ofString "divmod"), key := Value.str (Str.ofString "divmod") 19, val := Value.builtin "divmod" }, { hash := PyData.keyHash P (Str.ofString "eval"), key := Value.str (Str.ofString "eval") 20, val := Value.builtin "eval" }, { hash := PyData.keyHash P (Str.ofString "exec"), key := Value.str (Str.ofString "exec") 21, val := Value.builtin "exec" }, { hash := PyData.keyHash P (Str.ofString "format"), key := Value.str (Str.ofString "format") 22, val := Value.builtin "format" }, { hash := PyData.keyHash P (Str.ofString "getattr"), key := Value.str (Str.ofString "getattr") 23, val := Value.builtin "getattr" }, { hash := PyData.keyHash P (Str.ofString "globals"), key := Value.str (Str.ofString "globals") 24, val := Value.builtin "globals" }, { hash := PyData.keyHash P (Str.ofString "hasattr"), key := Value.str (Str.ofString "hasattr") 25, val := Value.builtin "hasattr" }, { hash := PyData.keyHash P (Str.ofString "hash"), key := Value.str (Str.ofString "hash") 26, val := Value.builtin "hash" }, { hash := PyData.keyHash P (Str.ofString "hex"), key := Value.str (Str.ofString "hex") 27, val := Value.builtin "hex" }, { hash := PyData.keyHash P (Str.ofString "id"), key := Value.str (Str.ofString "id") 28, val := Value.builtin "id" }, { hash := PyData.keyHash P (Str.ofString "input"), key := Value.str (Str.ofString "input") 29, val := Value.builtin "input" }, { hash := PyData.keyHash P (Str.ofString "isinstance"), key := Value.str (Str.ofString "isinstance") 30, val := Value.builtin "isinstance" }, { hash := PyData.keyHash P (Str.ofString "issubclass"), key := Value.str (Str.ofString "issubclass") 31, val := Value.builtin "issubclass" }, { hash := PyData.keyHash P (Str.ofString "iter"), key := Value.str (Str.ofString "iter") 32, val := Value.builtin "iter" }, { hash := PyData.keyHash P (Str.ofString "aiter"), key := Value.str (Str.ofString "aiter") 33, val := Value.builtin "aiter" }, { hash := PyData.keyHash P (Str.ofString "len"), key := Value.str (Str.ofString "len") 34, val := Value.builtin "len" }, { hash := PyData.keyHash P (Str.ofString "locals"), key := Value.str (Str.ofString "locals") 35, val := Value.builtin "locals" }, { hash := PyData.keyHash P (Str.ofString "max"), key := Value.str (Str.ofString "max") 36, val := Value.builtin "max" }, { hash := PyData.keyHash P (Str.ofString "min"), key := Value.str (Str.ofString "min") 37, val := Value.builtin "min" }, { hash := PyData.keyHash P (Str.ofString "next"), key := Value.str (Str.ofString "next") 38, val := Value.builtin "next" }, { hash := PyData.keyHash P (Str.ofString "anext"), key := Value.str (Str.ofString "anext") 39, val := Value.builtin "anext" }, { hash := PyData.keyHash P (Str.ofString "oct"), key := Value.str (Str.ofString "oct") 40, val := Value.builtin "oct" }, { hash := PyData.keyHash P (Str.ofString "ord"), key := Value.str (Str.ofString "ord") 41, val := Value.builtin "ord" }, { hash := PyData.keyHash P (Str.ofString "pow"), key := Value.str (Str.ofString "pow") 42, val := Value.builtin "pow" }, { hash := PyData.keyHash P (Str.ofString "print"), key := Value.str (Str.ofString "print") 43, val := Value.builtin "print" }, { hash := PyData.keyHash P (Str.ofString "repr"), key := Value.str (Str.ofString "repr") 44, val := Value.builtin "repr" }, { hash := PyData.keyHash P (Str.ofString "round"), key := Value.str (Str.ofString "round") 45, val := Value.builtin "round" }, { hash := PyData.keyHash P (Str.ofString "setattr"), key := Value.str (Str.ofString "setattr") 46, val := Value.builtin "setattr" }, { hash := PyData.keyHash P (Str.ofString "sorted"), key := Value.str (Str.ofString "sorted") 47, val := Value.builtin "sorted" }, { hash := PyData.keyHash P (Str.ofString "sum"), key := Value.str (Str.ofString "sum") 48, val := Value.builtin "sum" }, { hash := PyData.keyHash P (Str.ofString "vars"), key := Value.str (Str.ofString "vars") 49, val := Value.builtin "vars" }, { hash := PyData.keyHash P (Str.ofString "None"), key := Value.str (Str.ofString "None") 50, val := Value.none }, { hash := PyData.keyHash P (Str.ofString "Ellipsis"), key := Value.str (Str.ofString "Ellipsis") 51, val := Value.ellipsis }, { hash := PyData.keyHash P (Str.ofString "NotImplemented"), key := Value.str (Str.ofString "NotImplemented") 52, val := Value.notImplemented }, { hash := PyData.keyHash P (Str.ofString "False"), key := Value.str (Str.ofString "False") 53, val := Value.bool false }, { hash := PyData.keyHash P (Str.ofString "True"), key := Value.str (Str.ofString "True") 54, val := Value.bool true }, { hash := PyData.keyHash P (Str.ofString "bool"), key := Value.str (Str.ofString "bool") 55, val := Value.type "bool" }, { hash := PyData.keyHash P (Str.ofString "memoryview"), key := Value.str (Str.ofString "memoryview") 56, val := Value.type "memoryview" }, { hash := PyData.keyHash P (Str.ofString "bytearray"), key := Value.str (Str.ofString "bytearray") 57, val := Value.type "bytearray" }, { hash := PyData.keyHash P (Str.ofString "bytes"), key := Value.str (Str.ofString "bytes") 58, val := Value.type "bytes" }, { hash := PyData.keyHash P (Str.ofString "classmethod"), key := Value.str (Str.ofString "classmethod") 59, val := Value.type "classmethod" }, { hash := PyData.keyHash P (Str.ofString "complex"), key := Value.str (Str.ofString "complex") 60, val := Value.type "complex" }, { hash := PyData.keyHash P (Str.ofString "dict"), key := Value.str (Str.ofString "dict") 61, val := Value.type "dict" }, { hash := PyData.keyHash P (Str.ofString "enumerate"), key := Value.str (Str.ofString "enumerate") 62, val := Value.type "enumerate" }, { hash := PyData.keyHash P (Str.ofString "filter"), key := Value.str (Str.ofString "filter") 63, val := Value.type "filter" }, { hash := PyData.keyHash P (Str.ofString "float"), key := Value.str (Str.ofString "float") 64, val := Value.type "float" }, { hash := PyData.keyHash P (Str.ofString "frozenset"), key := Value.str (Str.ofString "frozenset") 65, val := Value.type "frozenset" }, { hash := PyData.keyHash P (Str.ofString "property"), key := Value.str (Str.ofString "property") 66, val := Value.type "property" }, { hash := PyData.keyHash P (Str.ofString "int"), key := Value.str (Str.ofString "int") 67, val := Value.type "int" }, { hash := PyData.keyHash P (Str.ofString "list"), key := Value.str (Str.ofString "list") 68, val := Value.type "list" }, { hash := PyData.keyHash P (Str.ofString "map"), key := Value.str (Str.ofString "map") 69, val := Value.type "map" }, { hash := PyData.keyHash P (Str.ofString "object"), key := Value.str (Str.ofString "object") 70, val := Value.type "object" }, { hash := PyData.keyHash P (Str.ofString "range"), key := Value.str (Str.ofString "range") 71, val := Value.type "range" }, { hash := PyData.keyHash P (Str.ofString "reversed"), key := Value.str (Str.ofString "reversed") 72, val := Value.type "reversed" }, { hash := PyData.keyHash P (Str.ofString "set"), key := Value.str (Str.ofString "set") 73, val := Value.type "set" }, { hash := PyData.keyHash P (Str.ofString "slice"), key := Value.str (Str.ofString "slice") 74, val := Value.type "slice" }, { hash := PyData.keyHash P (Str.ofString "staticmethod"), key := Value.str (Str.ofString "staticmethod") 75, val := Value.type "staticmethod" }, { hash := PyData.keyHash P (Str.ofString "str"), key := Value.str (Str.ofString "str") 76, val := Value.type "str" }, { hash := PyData.keyHash P (Str.ofString "super"), key := Value.str (Str.ofString "super") 77, val := Value.type "super" }, { hash := PyData.keyHash P (Str.ofString "tuple"), key := Value.str (Str.ofString "tuple") 78, val := Value.type "tuple" }, { hash := PyData.keyHash P (Str.ofString "type"), key := Value.str (Str.ofString "type") 79, val := Value.type "type" }, { hash := PyData.keyHash P (Str.ofString "zip"), key := Value.str (Str.ofString "zip") 80, val := Value.type "zip" }, { hash := PyData.keyHash P (Str.ofString "__debug__"), key := Value.str (Str.ofString "__debug__") 81, val := Value.bool true }, { hash := PyData.keyHash P (Str.ofString "BaseException"), key := Value.str (Str.ofString "BaseException") 82, val := Value.type "BaseException" }, { hash := PyData.keyHash P (Str.ofString "BaseExceptionGroup"), key := Value.str (Str.ofString "BaseExceptionGroup") 83, val := Value.type "BaseExceptionGroup" }, { hash := PyData.keyHash P (Str.ofString "Exception"), key := Value.str (Str.ofString "Exception") 84, val := Value.type "Exception" }, { hash := PyData.keyHash P (Str.ofString "GeneratorExit"), key := Value.str (Str.ofString "GeneratorExit") 85, val := Value.type "GeneratorExit" }, { hash := PyData.keyHash P (Str.ofString "KeyboardInterrupt"), key := Value.str (Str.ofString "KeyboardInterrupt") 86, val := Value.type "KeyboardInterrupt" }, { hash := PyData.keyHash P (Str.ofString "SystemExit"), key := Value.str (Str.ofString "SystemExit") 87, val := Value.type "SystemExit" }, { hash := PyData.keyHash P (Str.ofString "ArithmeticError"), key := Value.str (Str.ofString "ArithmeticError") 88, val := Value.type "ArithmeticError" }, { hash := PyData.keyHash P (Str.ofString "AssertionError"), key := Value.str (Str.ofString "AssertionError") 89, val := Value.type "AssertionError" }, { hash := PyData.keyHash P (Str.ofString "AttributeError"), key := Value.str (Str.ofString "AttributeError") 90, val := Value.type "AttributeError" }, { hash := PyData.keyHash P (Str.ofString "BufferError"), key := Value.str (Str.ofString "BufferError") 91, val := Value.type "BufferError" }, { hash := PyData.keyHash P (Str.ofString "EOFError"), key := Value.str (Str.ofString "EOFError") 92, val := Value.type "EOFError" }, { hash := PyData.keyHash P (Str.ofString "ImportError"), key := Value.str (Str.ofString "ImportError") 93, val := Value.type "ImportError" }, { hash := PyData.keyHash P (Str.ofString "LookupError"), key := Value.str (Str.ofString "LookupError") 94, val := Value.type "LookupError" }, { hash := PyData.keyHash P (Str.ofString "MemoryError"), key := Value.str (Str.ofString "MemoryError") 95, val := Value.type "MemoryError" }, { hash := PyData.keyHash P (Str.ofString "NameError"), key := Value.str (Str.ofString "NameError") 96, val := Value.type "NameError" }, { hash := PyData.keyHash P (Str.ofString "OSError"), key := Value.str (Str.ofString "OSError") 97, val := Value.type "OSError" }, { hash := PyData.keyHash P (Str.ofString "ReferenceError"), key := Value.str (Str.ofString "ReferenceError") 98, val := Value.type "ReferenceError" }, { hash := PyData.keyHash P (Str.ofString "RuntimeError"), key := Value.str (Str.ofString "RuntimeError") 99, val := Value.type "RuntimeError" }, { hash := PyData.keyHash P (Str.ofString "StopAsyncIteration"), key := Value.str (Str.ofString "StopAsyncIteration") 100, val := Value.type "StopAsyncIteration" }, { hash := PyData.keyHash P (Str.ofString "StopIteration"), key := Value.str (Str.ofString "StopIteration") 101, val := Value.type "StopIteration" }, { hash := PyData.keyHash P (Str.ofString "SyntaxError"), key := Value.str (Str.ofString "SyntaxError") 102, val := Value.type "SyntaxError" }, { hash := PyData.keyHash P (Str.ofString "SystemError"), key := Value.str (Str.ofString "SystemError") 103, val := Value.type "SystemError" }, { hash := PyData.keyHash P (Str.ofString "TypeError"), key := Value.str (Str.ofString "TypeError") 104, val := Value.type "TypeError" }, { hash := PyData.keyHash P (Str.ofString "ValueError"), key := Value.str (Str.ofString "ValueError") 105, val := Value.type "ValueError" }, { hash := PyData.keyHash P (Str.ofString "Warning"), key := Value.str (Str.ofString "Warning") 106, val := Value.type "Warning" }, { hash := PyData.keyHash P (Str.ofString "FloatingPointError"), key := Value.str (Str.ofString "FloatingPointError") 107, val := Value.type "FloatingPointError" }, { hash := PyData.keyHash P (Str.ofString "OverflowError"), key := Value.str (Str.ofString "OverflowError") 108, val := Value.type "OverflowError" }, { hash := PyData.keyHash P (Str.ofString "ZeroDivisionError"), key := Value.str (Str.ofString "ZeroDivisionError") 109, val := Value.type "ZeroDivisionError" }, { hash := PyData.keyHash P (Str.ofString "BytesWarning"), key := Value.str (Str.ofString "BytesWarning") 110, val := Value.type "BytesWarning" }, { hash := PyData.keyHash P (Str.ofString "DeprecationWarning"), key := Value.str (Str.ofString "DeprecationWarning") 111, val := Value.type "DeprecationWarning" }, { hash := PyData.keyHash P (Str.ofString "EncodingWarning"), key := Value.str (Str.ofString "EncodingWarning") 112, val := Value.type "EncodingWarning" }, { hash := PyData.keyHash P (Str.ofString "FutureWarning"), key := Value.str (Str.ofString "FutureWarning") 113, val := Value.type "FutureWarning" }, { hash := PyData.keyHash P (Str.ofString "ImportWarning"), key := Value.str (Str.ofString "ImportWarning") 114, val := Value.type "ImportWarning" }, { hash := PyData.keyHash P (Str.ofString "PendingDeprecationWarning"), key := Value.str (Str.ofString "PendingDeprecationWarning") 115, val := Value.type "PendingDeprecationWarning" }, { hash := PyData.keyHash P (Str.ofString "ResourceWarning"), key := Value.str (Str.ofString "ResourceWarning") 116, val := Value.type "ResourceWarning" }, { hash := PyData.keyHash P (Str.ofString "RuntimeWarning"), key := Value.str (Str.ofString "RuntimeWarning") 117, val := Value.type "RuntimeWarning" }, { hash := PyData.keyHash P (Str.ofString "SyntaxWarning"), key := Value.str (Str.ofString "SyntaxWarning") 118, val := Value.type "SyntaxWarning" }, { hash := PyData.keyHash P (Str.ofString "UnicodeWarning"), key := Value.str (Str.ofString "UnicodeWarning") 119, val := Value.type "UnicodeWarning" }, { hash := PyData.keyHash P (Str.ofString "UserWarning"), key := Value.str (Str.ofString "UserWarning") 120, val := Value.type "UserWarning" }, { hash := PyData.keyHash P (Str.ofString "BlockingIOError"), key := Value.str (Str.ofString "BlockingIOError") 121, val := Value.type "BlockingIOError" }, { hash := PyData.keyHash P (Str.ofString "ChildProcessError"), key := Value.str (Str.ofString "ChildProcessError") 122, val := Value.type "ChildProcessError" }, { hash := PyData.keyHash P (Str.ofString "ConnectionError"), key := Value.str (Str.ofString "ConnectionError") 123, val := Value.type "ConnectionError" }, { hash := PyData.keyHash P (Str.ofString "FileExistsError"), key := Value.str (Str.ofString "FileExistsError") 124, val := Value.type "FileExistsError" }, { hash := PyData.keyHash P (Str.ofString "FileNotFoundError"), key := Value.str (Str.ofString "FileNotFoundError") 125, val := Value.type "FileNotFoundError" }, { hash := PyData.keyHash P (Str.ofString "InterruptedError"), key := Value.str (Str.ofString "InterruptedError") 126, val := Value.type "InterruptedError" }, { hash := PyData.keyHash P (Str.ofString "IsADirectoryError"), key := Value.str (Str.ofString "IsADirectoryError") 127, val := Value.type "IsADirectoryError" }, { hash := PyData.keyHash P (Str.ofString "NotADirectoryError"), key := Value.str (Str.ofString "NotADirectoryError") 128, val := Value.type "NotADirectoryError" }, { hash := PyData.keyHash P (Str.ofString "PermissionError"), key := Value.str (Str.ofString "PermissionError") 129, val := Value.type "PermissionError" }, { hash := PyData.keyHash P (Str.ofString "ProcessLookupError"), key := Value.str (Str.ofString "ProcessLookupError") 130, val := Value.type "ProcessLookupError" }, { hash := PyData.keyHash P (Str.ofString "TimeoutError"), key := Value.str (Str.ofString "TimeoutError") 131, val := Value.type "TimeoutError" }, { hash := PyData.keyHash P (Str.ofString "IndentationError"), key := Value.str (Str.ofString "IndentationError") 132, val := Value.type "IndentationError" }, { hash := PyData.keyHash P (Str.ofString "_IncompleteInputError"), key := Value.str (Str.ofString "_IncompleteInputError") 133, val := Value.type "_IncompleteInputError" }, { hash := PyData.keyHash P (Str.ofString "IndexError"), key := Value.str (Str.ofString "IndexError") 134, val := Value.type "IndexError" }, { hash := PyData.keyHash P (Str.ofString "KeyError"), key := Value.str (Str.ofString "KeyError") 135, val := Value.type "KeyError" }, { hash := PyData.keyHash P (Str.ofString "ModuleNotFoundError"), key := Value.str (Str.ofString "ModuleNotFoundError") 136, val := Value.type "ModuleNotFoundError" }, { hash := PyData.keyHash P (Str.ofString "NotImplementedError"), key := Value.str (Str.ofString "NotImplementedError") 137, val := Value.type "NotImplementedError" }, { hash := PyData.keyHash P (Str.ofString "PythonFinalizationError"), key := Value.str (Str.ofString "PythonFinalizationError") 138, val := Value.type "PythonFinalizationError" }, { hash := PyData.keyHash P (Str.ofString "RecursionError"), key := Value.str (Str.ofString "RecursionError") 139, val := Value.type "RecursionError" }, { hash := PyData.keyHash P (Str.ofString "UnboundLocalError"), key := Value.str (Str.ofString "UnboundLocalError") 140, val := Value.type "UnboundLocalError" }, { hash := PyData.keyHash P (Str.ofString "UnicodeError"), key := Value.str (Str.ofString "UnicodeError") 141, val := Value.type "UnicodeError" }, { hash := PyData.keyHash P (Str.ofString "BrokenPipeError"), key := Value.str (Str.ofString "BrokenPipeError") 142, val := Value.type "BrokenPipeError" }, { hash := PyData.keyHash P (Str.ofString "ConnectionAbortedError"), key := Value.str (Str.ofString "ConnectionAbortedError") 143, val := Value.type "ConnectionAbortedError" }, { hash := PyData.keyHash P (Str.ofString "ConnectionRefusedError"), key := Value.str (Str.ofString "ConnectionRefusedError") 144, val := Value.type "ConnectionRefusedError" }, { hash := PyData.keyHash P (Str.ofString "ConnectionResetError"), key := Value.str (Str.ofString "ConnectionResetError") 145, val := Value.type "ConnectionResetError" }, { hash := PyData.keyHash P (Str.ofString "TabError"), key := Value.str (Str.ofString "TabError") 146, val := Value.type "TabError" }, { hash := PyData.keyHash P (Str.ofString "UnicodeDecodeError"), key := Value.str (Str.ofString "UnicodeDecodeError") 147, val := Value.type "UnicodeDecodeError" }, { hash := PyData.keyHash P (Str.ofString "UnicodeEncodeError"), key := Value.str (Str.ofString "UnicodeEncodeError") 148, val := Value.type "UnicodeEncodeError" }, { hash := PyData.keyHash P (Str.ofString "UnicodeTranslateError"), key := Value.str (Str.ofString "UnicodeTranslateError") 149, val := Value.type "UnicodeTranslateError" }, { hash := PyData.keyHash P (Str.ofString "ExceptionGroup"), key := Value.str (Str.ofString "ExceptionGroup") 150, val := Value.type "ExceptionGroup" }, { hash := PyData.keyHash P (Str.ofString "EnvironmentError"), key := Value.str (Str.ofString "EnvironmentError") 151, val := Value.type "OSError" }, { hash := PyData.keyHash P (Str.ofString "IOError"), key := Value.str (Str.ofString "IOError") 152, val := Value.type "OSError" }, { hash := PyData.keyHash P (Str.ofString "open"), key := Value.str (Str.ofString "open") 153, val := Value.builtin "open" }, { hash := PyData.keyHash P (Str.ofString "quit"), key := Value.str (Str.ofString "quit") 154, val := Value.builtin "builtins.quit#opaque" }, { hash := PyData.keyHash P (Str.ofString "exit"), key := Value.str (Str.ofString "exit") 155, val := Value.builtin "builtins.exit#opaque" }, { hash := PyData.keyHash P (Str.ofString "copyright"), key := Value.str (Str.ofString "copyright") 156, val := Value.builtin "builtins.copyright#opaque" }, { hash := PyData.keyHash P (Str.ofString "credits"), key := Value.str (Str.ofString "credits") 157, val := Value.builtin "builtins.credits#opaque" }, { hash := PyData.keyHash P (Str.ofString "license"), key := Value.str (Str.ofString "license") 158, val := Value.builtin "builtins.license#opaque" }, { hash := PyData.keyHash P (Str.ofString "help"), key := Value.str (Str.ofString "help") 159, val := Value.builtin "builtins.help#opaque" }] 159 }
noncomputable def h1v0 (P : Params) : Obj := { cls := Value.type "dict", data := Data.dict #[{ hash := PyData.keyHash P (Str.ofString "builtins"), key := Value.str (Str.ofString "builtins") 162, val := Value.ref 4 }, { hash := PyData.keyHash P (Str.ofString "__main__"), key := Value.str (Str.ofString "__main__") 163, val := Value.ref 5 }, { hash := PyData.keyHash P (Str.ofString "_sre"), key := Value.str (Str.ofString "_sre") 244, val := Value.ref 12 }] 3 }
noncomputable def h2v0 (P : Params) : Obj := { cls := Value.none, data := Data.dict #[{ hash := PyData.keyHash P (Str.ofString "\x69mport.loaded._sre"), key := Value.str (Str.ofString "\x69mport.loaded._sre") 183, val := Value.bool true }, { hash := PyData.keyHash P (Str.ofString "class._frozen_importlib.BuiltinImporter"), key := Value.str (Str.ofString "class._frozen_importlib.BuiltinImporter") 185, val := Value.ref 14 }, { hash := PyData.keyHash P (Str.ofString "watched.\x69mport"), key := Value.str (Str.ofString "watched.\x69mport") 206, val := Value.ref 18 }, { hash := PyData.keyHash P (Str.ofString "class._frozen_importlib.ModuleSpec"), key := Value.str (Str.ofString "class._frozen_importlib.ModuleSpec") 216, val := Value.ref 22 }, { hash := PyData.keyHash P (Str.ofString "sys.modules.booked-epoch"), key := Value.str (Str.ofString "sys.modules.booked-epoch") 245, val := Value.int 3 0 }, { hash := PyData.keyHash P (Str.ofString "\x69mport.later-laid._sre"), key := Value.str (Str.ofString "\x69mport.later-laid._sre") 270, val := Value.bool true }, { hash := PyData.keyHash P (Str.ofString "watched.library"), key := Value.str (Str.ofString "watched.library") 272, val := Value.ref 27 }, { hash := PyData.keyHash P (Str.ofString "watched.library-objects"), key := Value.str (Str.ofString "watched.library-objects") 0, val := Value.str (Str.ofString "\x0c") 0 }, { hash := PyData.keyHash P (Str.ofString "watched.library-deep._sre"), key := Value.str (Str.ofString "watched.library-deep._sre") 273, val := Value.str (Str.ofString "\x04\x00\x00\x0b\x04\x00\x00\x0b\x04\x00\x00\x03\x04\x00\x00\x0b\x08\x04dict\x02") 0 }] 9 }
noncomputable def h3v0 (P : Params) : Obj := { cls := Value.type "dict", data := Data.dict #[{ hash := PyData.keyHash P (Str.ofString "__name__"), key := Value.str (Str.ofString "__name__") 165, val := Value.str (Str.ofString "__main__") 164 }, { hash := PyData.keyHash P (Str.ofString "__doc__"), key := Value.str (Str.ofString "__doc__") 166, val := Value.none }, { hash := PyData.keyHash P (Str.ofString "__package__"), key := Value.str (Str.ofString "__package__") 167, val := Value.none }, { hash := PyData.keyHash P (Str.ofString "__loader__"), key := Value.str (Str.ofString "__loader__") 168, val := Value.builtin "__main__.__loader__#opaque" }, { hash := PyData.keyHash P (Str.ofString "__spec__"), key := Value.str (Str.ofString "__spec__") 169, val := Value.none }, { hash := PyData.keyHash P (Str.ofString "__annotations__"), key := Value.str (Str.ofString "__annotations__") 170, val := Value.ref 6 }, { hash := PyData.keyHash P (Str.ofString "__builtins__"), key := Value.str (Str.ofString "__builtins__") 171, val := Value.ref 4 }, { hash := PyData.keyHash P (Str.ofString "__file__"), key := Value.str (Str.ofString "__file__") 173, val := Value.str (Str.ofString "/claim/cut.py") 172 }, { hash := PyData.keyHash P (Str.ofString "__cached__"), key := Value.str (Str.ofString "__cached__") 174, val := Value.none }, { hash := PyData.keyHash P (Str.ofString "_sre"), key := Value.str (Str.ofString "_sre") 275, val := Value.ref 12 }] 10 }
noncomputable def h4v0 (P : Params) : Obj := { cls := Value.type "module", dict := some 0 }
noncomputable def h5v0 (P : Params) : Obj := { cls := Value.type "module", dict := some 3 }
noncomputable def h6v0 (P : Params) : Obj := { cls := Value.type "dict", data := Data.dict #[] }
noncomputable def h7v0 (P : Params) : Obj := { cls := Value.type "tuple", data := Data.seq #[] }
noncomputable def h8v0 (P : Params) : Obj := { cls := Value.none, data := Data.fields #[] }
noncomputable def h9v0 (P : Params) : Obj := { cls := Value.type "code", data := Data.fields #[Value.str (Str.ofString "<module>") 176, Value.str (Str.ofString "<module>") 177, Value.str (Str.ofString "/claim/cut.py") 178, Value.int 1 0, Value.int 0 0, Value.int 0 0, Value.int 0 0, Value.int 0 0, Value.ref 7, Value.bool false, Value.int 175 0, Value.ref 8, Value.none, Value.none, Value.none, Value.none, Value.int 179 0, Value.int 1 0, Value.str (Str.ofString "/claim/cut.py") 180] }
noncomputable def h10v0 (P : Params) : Obj := { cls := Value.type "frame", slots := #[some (Value.ref 9), some (Value.ref 3), some (Value.ref 3), none, some (Value.str (Str.ofString "__main__") 164), none, some (Value.ref 0)] }
noncomputable def h11v0 (P : Params) : Obj := { cls := Value.type "dict", data := Data.dict #[{ hash := PyData.keyHash P (Str.ofString "__name__"), key := Value.str (Str.ofString "__name__") 247, val := Value.str (Str.ofString "_sre") 246 }, { hash := PyData.keyHash P (Str.ofString "__doc__"), key := Value.str (Str.ofString "__doc__") 248, val := Value.none }, { hash := PyData.keyHash P (Str.ofString "__package__"), key := Value.str (Str.ofString "__package__") 250, val := Value.str (Str.ofString "") 249 }, { hash := PyData.keyHash P (Str.ofString "__loader__"), key := Value.str (Str.ofString "__loader__") 251, val := Value.builtin "off-the-table:_sre.__loader__:shared#opaque" }, { hash := PyData.keyHash P (Str.ofString "__spec__"), key := Value.str (Str.ofString "__spec__") 252, val := Value.builtin "off-the-table:_sre.__spec__:shared#opaque" }, { hash := PyData.keyHash P (Str.ofString "compile"), key := Value.str (Str.ofString "compile") 253, val := Value.builtin "_sre.compile" }, { hash := PyData.keyHash P (Str.ofString "template"), key := Value.str (Str.ofString "template") 254, val := Value.builtin "off-the-table:_sre.template:shared#opaque" }, { hash := PyData.keyHash P (Str.ofString "getcodesize"), key := Value.str (Str.ofString "getcodesize") 255, val := Value.builtin "off-the-table:_sre.getcodesize:shared#opaque" }, { hash := PyData.keyHash P (Str.ofString "ascii_iscased"), key := Value.str (Str.ofString "ascii_iscased") 256, val := Value.builtin "off-the-table:_sre.ascii_iscased:shared#opaque" }, { hash := PyData.keyHash P (Str.ofString "unicode_iscased"), key := Value.str (Str.ofString "unicode_iscased") 257, val := Value.builtin "off-the-table:_sre.unicode_iscased:shared#opaque" }, { hash := PyData.keyHash P (Str.ofString "ascii_tolower"), key := Value.str (Str.ofString "ascii_tolower") 258, val := Value.builtin "off-the-table:_sre.ascii_tolower:shared#opaque" }, { hash := PyData.keyHash P (Str.ofString "unicode_tolower"), key := Value.str (Str.ofString "unicode_tolower") 259, val := Value.builtin "off-the-table:_sre.unicode_tolower:shared#opaque" }, { hash := PyData.keyHash P (Str.ofString "MAGIC"), key := Value.str (Str.ofString "MAGIC") 261, val := Value.int 20230612 260 }, { hash := PyData.keyHash P (Str.ofString "CODESIZE"), key := Value.str (Str.ofString "CODESIZE") 263, val := Value.int 4 262 }, { hash := PyData.keyHash P (Str.ofString "MAXREPEAT"), key := Value.str (Str.ofString "MAXREPEAT") 265, val := Value.int 4294967295 264 }, { hash := PyData.keyHash P (Str.ofString "MAXGROUPS"), key := Value.str (Str.ofString "MAXGROUPS") 267, val := Value.int 1073741823 266 }, { hash := PyData.keyHash P (Str.ofString "copyright"), key := Value.str (Str.ofString "copyright") 269, val := Value.str (Str.ofString " SRE 2.2.2 Copyright (c) 1997-2002 by Secret Labs AB ") 268 }] 17 }
noncomputable def h12v0 (P : Params) : Obj := { cls := Value.type "module", dict := some 11 }
noncomputable def h13v0 (P : Params) : Obj := { cls := Value.type "dict", data := Data.dict #[{ hash := PyData.keyHash P (Str.ofString "__module__"), key := Value.str (Str.ofString "__module__") 189, val := Value.str (Str.ofString "_frozen_importlib") 186 }, { hash := PyData.keyHash P (Str.ofString "__firstlineno__"), key := Value.str (Str.ofString "__firstlineno__") 190, val := Value.int 971 187 }, { hash := PyData.keyHash P (Str.ofString "__doc__"), key := Value.str (Str.ofString "__doc__") 191, val := Value.builtin "_frozen_importlib.BuiltinImporter.__doc__:str#opaque" }, { hash := PyData.keyHash P (Str.ofString "_ORIGIN"), key := Value.str (Str.ofString "_ORIGIN") 192, val := Value.str (Str.ofString "built-in") 188 }, { hash := PyData.keyHash P (Str.ofString "find_spec"), key := Value.str (Str.ofString "find_spec") 193, val := Value.builtin "_frozen_importlib.BuiltinImporter.find_spec#opaque" }, { hash := PyData.keyHash P (Str.ofString "create_module"), key := Value.str (Str.ofString "create_module") 194, val := Value.builtin "_frozen_importlib.BuiltinImporter.create_module#opaque" }, { hash := PyData.keyHash P (Str.ofString "exec_module"), key := Value.str (Str.ofString "exec_module") 195, val := Value.builtin "_frozen_importlib.BuiltinImporter.exec_module#opaque" }, { hash := PyData.keyHash P (Str.ofString "get_code"), key := Value.str (Str.ofString "get_code") 196, val := Value.builtin "_frozen_importlib.BuiltinImporter.get_code#opaque" }, { hash := PyData.keyHash P (Str.ofString "get_source"), key := Value.str (Str.ofString "get_source") 197, val := Value.builtin "_frozen_importlib.BuiltinImporter.get_source#opaque" }, { hash := PyData.keyHash P (Str.ofString "is_package"), key := Value.str (Str.ofString "is_package") 198, val := Value.builtin "_frozen_importlib.BuiltinImporter.is_package#opaque" }, { hash := PyData.keyHash P (Str.ofString "load_module"), key := Value.str (Str.ofString "load_module") 199, val := Value.builtin "_frozen_importlib.BuiltinImporter.load_module#opaque" }, { hash := PyData.keyHash P (Str.ofString "__static_attributes__"), key := Value.str (Str.ofString "__static_attributes__") 200, val := Value.ref 15 }, { hash := PyData.keyHash P (Str.ofString "__dict__"), key := Value.str (Str.ofString "__dict__") 202, val := Value.ref 16 }, { hash := PyData.keyHash P (Str.ofString "__weakref__"), key := Value.str (Str.ofString "__weakref__") 204, val := Value.ref 17 }] 14 }
noncomputable def h14v0 (P : Params) : Obj := { cls := Value.type "type", data := Data.cls { name := Str.ofString "BuiltinImporter", bases := [Value.type "object"], mro := [Value.ref 14, Value.type "object"], ns := 13, qualname := Str.ofString "BuiltinImporter" } }
noncomputable def h15v0 (P : Params) : Obj := { cls := Value.type "tuple", data := Data.seq #[] }
noncomputable def h16v0 (P : Params) : Obj := { cls := Value.type "getset_descriptor", data := Data.fields #[Value.str (Str.ofString "__dict__") 201, Value.ref 14, Value.builtin "function.__dict__", Value.builtin "function.__dict__#set"] }
noncomputable def h17v0 (P : Params) : Obj := { cls := Value.type "getset_descriptor", data := Data.fields #[Value.str (Str.ofString "__weakref__") 203, Value.ref 14, Value.builtin "ExceptionGroup.__weakref__", Value.none] }
noncomputable def h18v0 (P : Params) : Obj := { cls := Value.none, data := Data.seq #[Value.int 13 0, Value.str (Str.ofString "\x06½\n__module__\x06º\x11_frozen_importlib\x06¾\x0f__firstlineno__\x04»\x00ϋ\x06¿\x07__doc__\t4_frozen_importlib.BuiltinImporter.__doc__:str#opaque\x06À\x07_ORIGIN\x06¼\x08built-in\x06Á\tfind_spec\t2_frozen_importlib.BuiltinImporter.find_spec#opaque\x06Â\x0dcreate_module\t6_frozen_importlib.BuiltinImporter.create_module#opaque\x06Ã\x0bexec_module\t4_frozen_importlib.BuiltinImporter.exec_module#opaque\x06Ä\x08get_code\t1_frozen_importlib.BuiltinImporter.get_code#opaque\x06Å\nget_source\t3_frozen_importlib.BuiltinImporter.get_source#opaque\x06Æ\nis_package\t3_frozen_importlib.BuiltinImporter.is_package#opaque\x06Ç\x0bload_module\t4_frozen_importlib.BuiltinImporter.load_module#opaque\x06È\x15__static_attributes__\x04\x00\x00\x0f\x06Ê\x08__dict__\x04\x00\x00\x10\x06Ì\x0b__weakref__\x04\x00\x00\x11") 0, Value.bool true, Value.bool true, Value.str (Str.ofString "") 205, Value.int 21 0, Value.str (Str.ofString "\x06ã\n__module__\x06Ù\x11_frozen_importlib\x06ä\x0f__firstlineno__\x04Ú\x00Ȳ\x06å\x07__doc__\t/_frozen_importlib.ModuleSpec.__doc__:str#opaque\x06æ\x08__init__\t,_frozen_importlib.ModuleSpec.__init__#opaque\x06ç\x08__repr__\t,_frozen_importlib.ModuleSpec.__repr__#opaque\x06è\x06__eq__\t*_frozen_importlib.ModuleSpec.__eq__#opaque\x06é\x06cached\t*_frozen_importlib.ModuleSpec.cached#opaque\x06ê\x06parent\t*_frozen_importlib.ModuleSpec.parent#opaque\x06ë\x0chas_location\t0_frozen_importlib.ModuleSpec.has_location#opaque\x06ì\x15__static_attributes__\x04\x00\x00\x17\x06î\x08__dict__\x04\x00\x00\x18\x06ð\x0b__weakref__\x04\x00\x00\x19\x06ñ\x08__hash__\x00") 0, Value.bool true, Value.bool true, Value.str (Str.ofString "") 242] 1 }
noncomputable def h19v0 (P : Params) : Obj := { cls := Value.type "list", data := Data.seq #[] }
noncomputable def h20v0 (P : Params) : Obj := { cls := Value.type "dict", data := Data.dict #[{ hash := PyData.keyHash P (Str.ofString "name"), key := Value.str (Str.ofString "name") 208, val := Value.str (Str.ofString "_sre") 207 }, { hash := PyData.keyHash P (Str.ofString "loader"), key := Value.str (Str.ofString "loader") 209, val := Value.ref 14 }, { hash := PyData.keyHash P (Str.ofString "origin"), key := Value.str (Str.ofString "origin") 210, val := Value.str (Str.ofString "built-in") 184 }, { hash := PyData.keyHash P (Str.ofString "loader_state"), key := Value.str (Str.ofString "loader_state") 211, val := Value.none }, { hash := PyData.keyHash P (Str.ofString "submodule_search_locations"), key := Value.str (Str.ofString "submodule_search_locations") 212, val := Value.none }, { hash := PyData.keyHash P (Str.ofString "_uninitialized_submodules"), key := Value.str (Str.ofString "_uninitialized_submodules") 213, val := Value.ref 19 }, { hash := PyData.keyHash P (Str.ofString "_set_fileattr"), key := Value.str (Str.ofString "_set_fileattr") 214, val := Value.bool false }, { hash := PyData.keyHash P (Str.ofString "_cached"), key := Value.str (Str.ofString "_cached") 215, val := Value.none }, { hash := PyData.keyHash P (Str.ofString "_initializing"), key := Value.str (Str.ofString "_initializing") 243, val := Value.bool false }] 9 }
noncomputable def h21v0 (P : Params) : Obj := { cls := Value.type "dict", data := Data.dict #[{ hash := PyData.keyHash P (Str.ofString "__module__"), key := Value.str (Str.ofString "__module__") 227, val := Value.str (Str.ofString "_frozen_importlib") 217 }, { hash := PyData.keyHash P (Str.ofString "__firstlineno__"), key := Value.str (Str.ofString "__firstlineno__") 228, val := Value.int 562 218 }, { hash := PyData.keyHash P (Str.ofString "__doc__"), key := Value.str (Str.ofString "__doc__") 229, val := Value.builtin "_frozen_importlib.ModuleSpec.__doc__:str#opaque" }, { hash := PyData.keyHash P (Str.ofString "__init__"), key := Value.str (Str.ofString "__init__") 230, val := Value.builtin "_frozen_importlib.ModuleSpec.__init__#opaque" }, { hash := PyData.keyHash P (Str.ofString "__repr__"), key := Value.str (Str.ofString "__repr__") 231, val := Value.builtin "_frozen_importlib.ModuleSpec.__repr__#opaque" }, { hash := PyData.keyHash P (Str.ofString "__eq__"), key := Value.str (Str.ofString "__eq__") 232, val := Value.builtin "_frozen_importlib.ModuleSpec.__eq__#opaque" }, { hash := PyData.keyHash P (Str.ofString "cached"), key := Value.str (Str.ofString "cached") 233, val := Value.builtin "_frozen_importlib.ModuleSpec.cached#opaque" }, { hash := PyData.keyHash P (Str.ofString "parent"), key := Value.str (Str.ofString "parent") 234, val := Value.builtin "_frozen_importlib.ModuleSpec.parent#opaque" }, { hash := PyData.keyHash P (Str.ofString "has_location"), key := Value.str (Str.ofString "has_location") 235, val := Value.builtin "_frozen_importlib.ModuleSpec.has_location#opaque" }, { hash := PyData.keyHash P (Str.ofString "__static_attributes__"), key := Value.str (Str.ofString "__static_attributes__") 236, val := Value.ref 23 }, { hash := PyData.keyHash P (Str.ofString "__dict__"), key := Value.str (Str.ofString "__dict__") 238, val := Value.ref 24 }, { hash := PyData.keyHash P (Str.ofString "__weakref__"), key := Value.str (Str.ofString "__weakref__") 240, val := Value.ref 25 }, { hash := PyData.keyHash P (Str.ofString "__hash__"), key := Value.str (Str.ofString "__hash__") 241, val := Value.none }] 13 }
noncomputable def h22v0 (P : Params) : Obj := { cls := Value.type "type", data := Data.cls { name := Str.ofString "ModuleSpec", bases := [Value.type "object"], mro := [Value.ref 22, Value.type "object"], ns := 21, qualname := Str.ofString "ModuleSpec" } }
noncomputable def h23v0 (P : Params) : Obj := { cls := Value.type "tuple", data := Data.seq #[Value.str (Str.ofString "_cached") 219, Value.str (Str.ofString "_set_fileattr") 220, Value.str (Str.ofString "_uninitialized_submodules") 221, Value.str (Str.ofString "loader") 222, Value.str (Str.ofString "loader_state") 223, Value.str (Str.ofString "name") 224, Value.str (Str.ofString "origin") 225, Value.str (Str.ofString "submodule_search_locations") 226] }
noncomputable def h24v0 (P : Params) : Obj := { cls := Value.type "getset_descriptor", data := Data.fields #[Value.str (Str.ofString "__dict__") 237, Value.ref 22, Value.builtin "function.__dict__", Value.builtin "function.__dict__#set"] }
noncomputable def h25v0 (P : Params) : Obj := { cls := Value.type "getset_descriptor", data := Data.fields #[Value.str (Str.ofString "__weakref__") 239, Value.ref 22, Value.builtin "ExceptionGroup.__weakref__", Value.none] }
noncomputable def h26v0 (P : Params) : Obj := { cls := Value.ref 22, dict := some 20 }
noncomputable def h27v0 (P : Params) : Obj := { cls := Value.none, data := Data.seq #[Value.int 11 0, Value.str { cps := #[6, 247, 8, 95, 95, 110, 97, 109, 101, 95, 95, 6, 246, 4, 95, 115, 114, 101, 6, 248, 7, 95, 95, 100, 111, 99, 95, 95, 0, 6, 250, 11, 95, 95, 112, 97, 99, 107, 97, 103, 101, 95, 95, 6, 249, 0, 6, 251, 10, 95, 95, 108, 111, 97, 100, 101, 114, 95, 95, 4, 0, 0, 14, 6, 252, 8, 95, 95, 115, 112, 101, 99, 95, 95, 4, 0, 0, 26, 6, 253, 7, 99, 111, 109, 112, 105, 108, 101, 9, 12, 95, 115, 114, 101, 46, 99, 111, 109, 112, 105, 108, 101, 6, 254, 8, 116, 101, 109, 112, 108, 97, 116, 101, 9, 13, 95, 115, 114, 101, 46, 116, 101, 109, 112, 108, 97, 116, 101, 6, 255, 11, 103, 101, 116, 99, 111, 100, 101, 115, 105, 122, 101, 9, 16, 95, 115, 114, 101, 46, 103, 101, 116, 99, 111, 100, 101, 115, 105, 122, 101, 6, 256, 13, 97, 115, 99, 105, 105, 95, 105, 115, 99, 97, 115, 101, 100, 9, 18, 95, 115, 114, 101, 46, 97, 115, 99, 105, 105, 95, 105, 115, 99, 97, 115, 101, 100, 6, 257, 15, 117, 110, 105, 99, 111, 100, 101, 95, 105, 115, 99, 97, 115, 101, 100, 9, 20, 95, 115, 114, 101, 46, 117, 110, 105, 99, 111, 100, 101, 95, 105, 115, 99, 97, 115, 101, 100, 6, 258, 13, 97, 115, 99, 105, 105, 95, 116, 111, 108, 111, 119, 101, 114, 9, 18, 95, 115, 114, 101, 46, 97, 115, 99, 105, 105, 95, 116, 111, 108, 111, 119, 101, 114, 6, 259, 15, 117, 110, 105, 99, 111, 100, 101, 95, 116, 111, 108, 111, 119, 101, 114, 9, 20, 95, 115, 114, 101, 46, 117, 110, 105, 99, 111, 100, 101, 95, 116, 111, 108, 111, 119, 101, 114, 6, 261, 5, 77, 65, 71, 73, 67, 4, 260, 0, 20230612, 6, 263, 8, 67, 79, 68, 69, 83, 73, 90, 69, 4, 262, 0, 4, 6, 265, 9, 77, 65, 88, 82, 69, 80, 69, 65, 84, 4, 264, 0, 4294967295, 6, 267, 9, 77, 65, 88, 71, 82, 79, 85, 80, 83, 4, 266, 0, 1073741823, 6, 269, 9, 99, 111, 112, 121, 114, 105, 103, 104, 116, 6, 268, 53, 32, 83, 82, 69, 32, 50, 46, 50, 46, 50, 32, 67, 111, 112, 121, 114, 105, 103, 104, 116, 32, 40, 99, 41, 32, 49, 57, 57, 55, 45, 50, 48, 48, 50, 32, 98, 121, 32, 83, 101, 99, 114, 101, 116, 32, 76, 97, 98, 115, 32, 65, 66, 32] } 0, Value.bool true, Value.bool false, Value.str (Str.ofString "_sre") 271] }
noncomputable def h28v1 (P : Params) : Obj := { cls := Value.type "tuple", data := Data.seq #[] }
noncomputable def h29v1 (P : Params) : Obj := { cls := Value.none, data := Data.fields #[] }
noncomputable def h30v1 (P : Params) : Obj := { cls := Value.type "code", data := Data.fields #[Value.str (Str.ofString "<module>") 277, Value.str (Str.ofString "<module>") 278, Value.str (Str.ofString "/claim/cut.py") 279, Value.int 1 0, Value.int 0 0, Value.int 0 0, Value.int 0 0, Value.int 0 0, Value.ref 28, Value.bool false, Value.int 276 0, Value.ref 29, Value.none, Value.none, Value.none, Value.none, Value.int 280 0, Value.int 1 0, Value.str (Str.ofString "/claim/cut.py") 281] }
noncomputable def h31v1 (P : Params) : Obj := { cls := Value.type "frame", slots := #[some (Value.ref 30), some (Value.ref 3), some (Value.ref 3), none, some (Value.str (Str.ofString "__main__") 164), none, some (Value.ref 0)] }
noncomputable def h3v3 (P : Params) : Obj := { cls := Value.type "dict", data := Data.dict #[{ hash := PyData.keyHash P (Str.ofString "__name__"), key := Value.str (Str.ofString "__name__") 165, val := Value.str (Str.ofString "cpy313.fnmatch") 282 }, { hash := PyData.keyHash P (Str.ofString "__doc__"), key := Value.str (Str.ofString "__doc__") 166, val := Value.none }, { hash := PyData.keyHash P (Str.ofString "__package__"), key := Value.str (Str.ofString "__package__") 167, val := Value.none }, { hash := PyData.keyHash P (Str.ofString "__loader__"), key := Value.str (Str.ofString "__loader__") 168, val := Value.builtin "__main__.__loader__#opaque" }, { hash := PyData.keyHash P (Str.ofString "__spec__"), key := Value.str (Str.ofString "__spec__") 169, val := Value.none }, { hash := PyData.keyHash P (Str.ofString "__annotations__"), key := Value.str (Str.ofString "__annotations__") 170, val := Value.ref 6 }, { hash := PyData.keyHash P (Str.ofString "__builtins__"), key := Value.str (Str.ofString "__builtins__") 171, val := Value.ref 4 }, { hash := PyData.keyHash P (Str.ofString "__file__"), key := Value.str (Str.ofString "__file__") 173, val := Value.str (Str.ofString "/claim/cut.py") 172 }, { hash := PyData.keyHash P (Str.ofString "__cached__"), key := Value.str (Str.ofString "__cached__") 174, val := Value.none }, { hash := PyData.keyHash P (Str.ofString "_sre"), key := Value.str (Str.ofString "_sre") 275, val := Value.ref 12 }] 10 }
noncomputable def h3v4 (P : Params) : Obj := { cls := Value.type "dict", data := Data.dict #[{ hash := PyData.keyHash P (Str.ofString "__name__"), key := Value.str (Str.ofString "__name__") 165, val := Value.str (Str.ofString "cpy313.fnmatch") 282 }, { hash := PyData.keyHash P (Str.ofString "__doc__"), key := Value.str (Str.ofString "__doc__") 166, val := Value.none }, { hash := PyData.keyHash P (Str.ofString "__package__"), key := Value.str (Str.ofString "__package__") 167, val := Value.none }, { hash := PyData.keyHash P (Str.ofString "__loader__"), key := Value.str (Str.ofString "__loader__") 168, val := Value.builtin "__main__.__loader__#opaque" }, { hash := PyData.keyHash P (Str.ofString "__spec__"), key := Value.str (Str.ofString "__spec__") 169, val := Value.none }, { hash := PyData.keyHash P (Str.ofString "__annotations__"), key := Value.str (Str.ofString "__annotations__") 170, val := Value.ref 6 }, { hash := PyData.keyHash P (Str.ofString "__builtins__"), key := Value.str (Str.ofString "__builtins__") 171, val := Value.ref 4 }, { hash := PyData.keyHash P (Str.ofString "__file__"), key := Value.str (Str.ofString "__file__") 173, val := Value.str (Str.ofString "/claim/cut.py") 172 }, { hash := PyData.keyHash P (Str.ofString "__cached__"), key := Value.str (Str.ofString "__cached__") 174, val := Value.none }, { hash := PyData.keyHash P (Str.ofString "_sre"), key := Value.str (Str.ofString "_sre") 275, val := Value.ref 12 }, { hash := PyData.keyHash P (Str.ofString "_twin_re_1"), key := Value.str (Str.ofString "_twin_re_1") 321, val := Value.ref 36 }] 11 }
noncomputable def h32v4 (P : Params) : Obj := { cls := Value.type "list", data := Data.seq #[Value.int 14 287, Value.int 14 288, Value.int 4 289, Value.int 1 290, Value.int 1 291, Value.int 9 292, Value.int 0 293, Value.int 64 294, Value.int 0 295, Value.int 1342177280 296, Value.int 0 297, Value.int 0 298, Value.int 0 299, Value.int 0 300, Value.int 0 301, Value.int 17 302, Value.int 0 303, Value.int 13 304, Value.int 11 305, Value.int 9 306, Value.int 0 307, Value.int 64 308, Value.int 0 309, Value.int 1342177280 310, Value.int 0 311, Value.int 0 312, Value.int 0 313, Value.int 0 314, Value.int 0 315, Value.int 17 316, Value.int 1 317, Value.int 1 318] }
noncomputable def h33v4 (P : Params) : Obj := { cls := Value.type "dict", data := Data.dict #[] }
noncomputable def h34v4 (P : Params) : Obj := { cls := Value.type "tuple", data := Data.seq #[Value.none, Value.none] }
noncomputable def h35v4 (P : Params) : Obj := { cls := Value.type "tuple", data := Data.seq #[Value.int 14 0, Value.int 14 0, Value.int 4 0, Value.int 1 0, Value.int 1 0, Value.int 9 0, Value.int 0 0, Value.int 64 0, Value.int 0 0, Value.int 1342177280 0, Value.int 0 0, Value.int 0 0, Value.int 0 0, Value.int 0 0, Value.int 0 0, Value.int 17 0, Value.int 0 0, Value.int 13 0, Value.int 11 0, Value.int 9 0, Value.int 0 0, Value.int 64 0, Value.int 0 0, Value.int 1342177280 0, Value.int 0 0, Value.int 0 0, Value.int 0 0, Value.int 0 0, Value.int 0 0, Value.int 17 0, Value.int 1 0, Value.int 1 0] }
noncomputable def h36v4 (P : Params) : Obj := { cls := Value.type "re.Pattern", data := Data.fields #[Value.str (Str.ofString "([&~|])") 285, Value.int 32 320, Value.int 1 0, Value.none, Value.none, Value.ref 35, Value.int 0 0] }
noncomputable def h3v5 (P : Params) : Obj := { cls := Value.type "dict", data := Data.dict #[{ hash := PyData.keyHash P (Str.ofString "__name__"), key := Value.str (Str.ofString "__name__") 165, val := Value.str (Str.ofString "cpy313.fnmatch") 282 }, { hash := PyData.keyHash P (Str.ofString "__doc__"), key := Value.str (Str.ofString "__doc__") 166, val := Value.none }, { hash := PyData.keyHash P (Str.ofString "__package__"), key := Value.str (Str.ofString "__package__") 167, val := Value.none }, { hash := PyData.keyHash P (Str.ofString "__loader__"), key := Value.str (Str.ofString "__loader__") 168, val := Value.builtin "__main__.__loader__#opaque" }, { hash := PyData.keyHash P (Str.ofString "__spec__"), key := Value.str (Str.ofString "__spec__") 169, val := Value.none }, { hash := PyData.keyHash P (Str.ofString "__annotations__"), key := Value.str (Str.ofString "__annotations__") 170, val := Value.ref 6 }, { hash := PyData.keyHash P (Str.ofString "__builtins__"), key := Value.str (Str.ofString "__builtins__") 171, val := Value.ref 4 }, { hash := PyData.keyHash P (Str.ofString "__file__"), key := Value.str (Str.ofString "__file__") 173, val := Value.str (Str.ofString "/claim/cut.py") 172 }, { hash := PyData.keyHash P (Str.ofString "__cached__"), key := Value.str (Str.ofString "__cached__") 174, val := Value.none }, { hash := PyData.keyHash P (Str.ofString "_sre"), key := Value.str (Str.ofString "_sre") 275, val := Value.ref 12 }, { hash := PyData.keyHash P (Str.ofString "_twin_re_1"), key := Value.str (Str.ofString "_twin_re_1") 321, val := Value.ref 36 }, { hash := PyData.keyHash P (Str.ofString "translate"), key := Value.str (Str.ofString "translate") 330, val := Value.ref 43 }] 12 }
noncomputable def h29v5 (P : Params) : Obj := { cls := Value.none, data := Data.fields #[Value.int 4 0, Value.int 0 0, Value.ref 42] }
noncomputable def h37v5 (P : Params) : Obj := { cls := Value.type "tuple", data := Data.seq #[] }
noncomputable def h38v5 (P : Params) : Obj := { cls := Value.none, data := Data.fields #[] }
noncomputable def h39v5 (P : Params) : Obj := { cls := Value.type "tuple", data := Data.seq #[Value.str (Str.ofString "pat") 325, Value.str (Str.ofString "STAR") 326, Value.str (Str.ofString "parts") 327] }
noncomputable def h40v5 (P : Params) : Obj := { cls := Value.type "tuple", data := Data.seq #[] }
noncomputable def h41v5 (P : Params) : Obj := tmpl ar3 bd3 sc3 "translate"
noncomputable def h42v5 (P : Params) : Obj := { cls := Value.type "code", data := Data.fields #[Value.str (Str.ofString "translate") 322, Value.str (Str.ofString "translate") 323, Value.str (Str.ofString "/claim/cut.py") 324, Value.int 4 0, Value.int 1 0, Value.int 0 0, Value.int 0 0, Value.int 3 0, Value.ref 37, Value.bool true, Value.int 276 0, Value.ref 38, Value.none, Value.ref 39, Value.ref 40, Value.ref 41, Value.int 328 0, Value.int 4 0, Value.str (Str.ofString "/claim/cut.py") 329] }
noncomputable def h43v5 (P : Params) : Obj := fobj ar3 bd3 sc3 "translate" "cpy313.fnmatch" 282 42
noncomputable def h3v6 (P : Params) : Obj := { cls := Value.type "dict", data := Data.dict #[{ hash := PyData.keyHash P (Str.ofString "__name__"), key := Value.str (Str.ofString "__name__") 165, val := Value.str (Str.ofString "re") 331 }, { hash := PyData.keyHash P (Str.ofString "__doc__"), key := Value.str (Str.ofString "__doc__") 166, val := Value.none }, { hash := PyData.keyHash P (Str.ofString "__package__"), key := Value.str (Str.ofString "__package__") 167, val := Value.none }, { hash := PyData.keyHash P (Str.ofString "__loader__"), key := Value.str (Str.ofString "__loader__") 168, val := Value.builtin "__main__.__loader__#opaque" }, { hash := PyData.keyHash P (Str.ofString "__spec__"), key := Value.str (Str.ofString "__spec__") 169, val := Value.none }, { hash := PyData.keyHash P (Str.ofString "__annotations__"), key := Value.str (Str.ofString "__annotations__") 170, val := Value.ref 6 }, { hash := PyData.keyHash P (Str.ofString "__builtins__"), key := Value.str (Str.ofString "__builtins__") 171, val := Value.ref 4 }, { hash := PyData.keyHash P (Str.ofString "__file__"), key := Value.str (Str.ofString "__file__") 173, val := Value.str (Str.ofString "/claim/cut.py") 172 }, { hash := PyData.keyHash P (Str.ofString "__cached__"), key := Value.str (Str.ofString "__cached__") 174, val := Value.none }, { hash := PyData.keyHash P (Str.ofString "_sre"), key := Value.str (Str.ofString "_sre") 275, val := Value.ref 12 }, { hash := PyData.keyHash P (Str.ofString "_twin_re_1"), key := Value.str (Str.ofString "_twin_re_1") 321, val := Value.ref 36 }, { hash := PyData.keyHash P (Str.ofString "translate"), key := Value.str (Str.ofString "translate") 330, val := Value.ref 43 }] 12 }
noncomputable def h3v7 (P : Params) : Obj := { cls := Value.type "dict", data := Data.dict #[{ hash := PyData.keyHash P (Str.ofString "__name__"), key := Value.str (Str.ofString "__name__") 165, val := Value.str (Str.ofString "re") 331 }, { hash := PyData.keyHash P (Str.ofString "__doc__"), key := Value.str (Str.ofString "__doc__") 166, val := Value.none }, { hash := PyData.keyHash P (Str.ofString "__package__"), key := Value.str (Str.ofString "__package__") 167, val := Value.none }, { hash := PyData.keyHash P (Str.ofString "__loader__"), key := Value.str (Str.ofString "__loader__") 168, val := Value.builtin "__main__.__loader__#opaque" }, { hash := PyData.keyHash P (Str.ofString "__spec__"), key := Value.str (Str.ofString "__spec__") 169, val := Value.none }, { hash := PyData.keyHash P (Str.ofString "__annotations__"), key := Value.str (Str.ofString "__annotations__") 170, val := Value.ref 6 }, { hash := PyData.keyHash P (Str.ofString "__builtins__"), key := Value.str (Str.ofString "__builtins__") 171, val := Value.ref 4 }, { hash := PyData.keyHash P (Str.ofString "__file__"), key := Value.str (Str.ofString "__file__") 173, val := Value.str (Str.ofString "/claim/cut.py") 172 }, { hash := PyData.keyHash P (Str.ofString "__cached__"), key := Value.str (Str.ofString "__cached__") 174, val := Value.none }, { hash := PyData.keyHash P (Str.ofString "_sre"), key := Value.str (Str.ofString "_sre") 275, val := Value.ref 12 }, { hash := PyData.keyHash P (Str.ofString "_twin_re_1"), key := Value.str (Str.ofString "_twin_re_1") 321, val := Value.ref 36 }, { hash := PyData.keyHash P (Str.ofString "translate"), key := Value.str (Str.ofString "translate") 330, val := Value.ref 43 }, { hash := PyData.keyHash P (Str.ofString "_special_chars_map"), key := Value.str (Str.ofString "_special_chars_map") 478, val := Value.ref 45 }] 13 }
noncomputable def h44v7 (P : Params) : Obj := { cls := Value.type "bytes_iterator", data := Data.fields #[Value.none, Value.int 24 0] }
noncomputable def h45v7 (P : Params) : Obj := { cls := Value.type "dict", data := Data.dict #[{ hash := 40, key := Value.int 40 334, val := Value.str (Str.ofString "\\(") 338 }, { hash := 41, key := Value.int 41 340, val := Value.str (Str.ofString "\\)") 344 }, { hash := 91, key := Value.int 91 346, val := Value.str (Str.ofString "\\[") 350 }, { hash := 93, key := Value.int 93 352, val := Value.str (Str.ofString "\\]") 356 }, { hash := 123, key := Value.int 123 358, val := Value.str (Str.ofString "\\{") 362 }, { hash := 125, key := Value.int 125 364, val := Value.str (Str.ofString "\\}") 368 }, { hash := 63, key := Value.int 63 370, val := Value.str (Str.ofString "\\?") 374 }, { hash := 42, key := Value.int 42 376, val := Value.str (Str.ofString "\\*") 380 }, { hash := 43, key := Value.int 43 382, val := Value.str (Str.ofString "\\+") 386 }, { hash := 45, key := Value.int 45 388, val := Value.str (Str.ofString "\\-") 392 }, { hash := 124, key := Value.int 124 394, val := Value.str (Str.ofString "\\|") 398 }, { hash := 94, key := Value.int 94 400, val := Value.str (Str.ofString "\\^") 404 }, { hash := 36, key := Value.int 36 406, val := Value.str (Str.ofString "\\$") 410 }, { hash := 92, key := Value.int 92 412, val := Value.str (Str.ofString "\\\\") 416 }, { hash := 46, key := Value.int 46 418, val := Value.str (Str.ofString "\\.") 422 }, { hash := 38, key := Value.int 38 424, val := Value.str (Str.ofString "\\&") 428 }, { hash := 126, key := Value.int 126 430, val := Value.str (Str.ofString "\\~") 434 }, { hash := 35, key := Value.int 35 436, val := Value.str (Str.ofString "\\#") 440 }, { hash := 32, key := Value.int 32 442, val := Value.str (Str.ofString "\\ ") 446 }, { hash := 9, key := Value.int 9 448, val := Value.str (Str.ofString "\\\t") 452 }, { hash := 10, key := Value.int 10 454, val := Value.str (Str.ofString "\\\n") 458 }, { hash := 13, key := Value.int 13 460, val := Value.str (Str.ofString "\\\x0d") 464 }, { hash := 11, key := Value.int 11 466, val := Value.str (Str.ofString "\\\x0b") 470 }, { hash := 12, key := Value.int 12 472, val := Value.str (Str.ofString "\\\x0c") 476 }] 24 }
noncomputable def h46v7 (P : Params) : Obj := { cls := Value.type "dict", data := Data.dict #[] 2 }
noncomputable def h47v7 (P : Params) : Obj := { cls := Value.type "tuple", data := Data.seq #[] }
noncomputable def h48v7 (P : Params) : Obj := { cls := Value.type "StopIteration", data := Data.fields #[Value.ref 47, Value.none, Value.none, Value.none, Value.bool false, Value.none] }
noncomputable def h3v8 (P : Params) : Obj := { cls := Value.type "dict", data := Data.dict #[{ hash := PyData.keyHash P (Str.ofString "__name__"), key := Value.str (Str.ofString "__name__") 165, val := Value.str (Str.ofString "re") 331 }, { hash := PyData.keyHash P (Str.ofString "__doc__"), key := Value.str (Str.ofString "__doc__") 166, val := Value.none }, { hash := PyData.keyHash P (Str.ofString "__package__"), key := Value.str (Str.ofString "__package__") 167, val := Value.none }, { hash := PyData.keyHash P (Str.ofString "__loader__"), key := Value.str (Str.ofString "__loader__") 168, val := Value.builtin "__main__.__loader__#opaque" }, { hash := PyData.keyHash P (Str.ofString "__spec__"), key := Value.str (Str.ofString "__spec__") 169, val := Value.none }, { hash := PyData.keyHash P (Str.ofString "__annotations__"), key := Value.str (Str.ofString "__annotations__") 170, val := Value.ref 6 }, { hash := PyData.keyHash P (Str.ofString "__builtins__"), key := Value.str (Str.ofString "__builtins__") 171, val := Value.ref 4 }, { hash := PyData.keyHash P (Str.ofString "__file__"), key := Value.str (Str.ofString "__file__") 173, val := Value.str (Str.ofString "/claim/cut.py") 172 }, { hash := PyData.keyHash P (Str.ofString "__cached__"), key := Value.str (Str.ofString "__cached__") 174, val := Value.none }, { hash := PyData.keyHash P (Str.ofString "_sre"), key := Value.str (Str.ofString "_sre") 275, val := Value.ref 12 }, { hash := PyData.keyHash P (Str.ofString "_twin_re_1"), key := Value.str (Str.ofString "_twin_re_1") 321, val := Value.ref 36 }, { hash := PyData.keyHash P (Str.ofString "translate"), key := Value.str (Str.ofString "translate") 330, val := Value.ref 43 }, { hash := PyData.keyHash P (Str.ofString "_special_chars_map"), key := Value.str (Str.ofString "_special_chars_map") 478, val := Value.ref 45 }, { hash := PyData.keyHash P (Str.ofString "escape"), key := Value.str (Str.ofString "escape") 485, val := Value.ref 55 }] 14 }
noncomputable def h29v8 (P : Params) : Obj := { cls := Value.none, data := Data.fields #[Value.int 4 0, Value.int 0 0, Value.ref 42, Value.int 10 0, Value.int 0 0, Value.ref 54] }
noncomputable def h49v8 (P : Params) : Obj := { cls := Value.type "tuple", data := Data.seq #[] }
noncomputable def h50v8 (P : Params) : Obj := { cls := Value.none, data := Data.fields #[] }
noncomputable def h51v8 (P : Params) : Obj := { cls := Value.type "tuple", data := Data.seq #[Value.str (Str.ofString "pattern") 482] }
noncomputable def h52v8 (P : Params) : Obj := { cls := Value.type "tuple", data := Data.seq #[] }
noncomputable def h53v8 (P : Params) : Obj := tmpl ar6 bd6 sc6 "escape"
noncomputable def h54v8 (P : Params) : Obj := { cls := Value.type "code", data := Data.fields #[Value.str (Str.ofString "escape") 479, Value.str (Str.ofString "escape") 480, Value.str (Str.ofString "/claim/cut.py") 481, Value.int 10 0, Value.int 1 0, Value.int 0 0, Value.int 0 0, Value.int 3 0, Value.ref 49, Value.bool true, Value.int 276 0, Value.ref 50, Value.none, Value.ref 51, Value.ref 52, Value.ref 53, Value.int 483 0, Value.int 10 0, Value.str (Str.ofString "/claim/cut.py") 484] }
noncomputable def h55v8 (P : Params) : Obj := fobj ar6 bd6 sc6 "escape" "re" 331 54
noncomputable def h3v9 (P : Params) : Obj := { cls := Value.type "dict", data := Data.dict #[{ hash := PyData.keyHash P (Str.ofString "__name__"), key := Value.str (Str.ofString "__name__") 165, val := Value.str (Str.ofString "cpy313.fnmatch") 486 }, { hash := PyData.keyHash P (Str.ofString "__doc__"), key := Value.str (Str.ofString "__doc__") 166, val := Value.none }, { hash := PyData.keyHash P (Str.ofString "__package__"), key := Value.str (Str.ofString "__package__") 167, val := Value.none }, { hash := PyData.keyHash P (Str.ofString "__loader__"), key := Value.str (Str.ofString "__loader__") 168, val := Value.builtin "__main__.__loader__#opaque" }, { hash := PyData.keyHash P (Str.ofString "__spec__"), key := Value.str (Str.ofString "__spec__") 169, val := Value.none }, { hash := PyData.keyHash P (Str.ofString "__annotations__"), key := Value.str (Str.ofString "__annotations__") 170, val := Value.ref 6 }, { hash := PyData.keyHash P (Str.ofString "__builtins__"), key := Value.str (Str.ofString "__builtins__") 171, val := Value.ref 4 }, { hash := PyData.keyHash P (Str.ofString "__file__"), key := Value.str (Str.ofString "__file__") 173, val := Value.str (Str.ofString "/claim/cut.py") 172 }, { hash := PyData.keyHash P (Str.ofString "__cached__"), key := Value.str (Str.ofString "__cached__") 174, val := Value.none }, { hash := PyData.keyHash P (Str.ofString "_sre"), key := Value.str (Str.ofString "_sre") 275, val := Value.ref 12 }, { hash := PyData.keyHash P (Str.ofString "_twin_re_1"), key := Value.str (Str.ofString "_twin_re_1") 321, val := Value.ref 36 }, { hash := PyData.keyHash P (Str.ofString "translate"), key := Value.str (Str.ofString "translate") 330, val := Value.ref 43 }, { hash := PyData.keyHash P (Str.ofString "_special_chars_map"), key := Value.str (Str.ofString "_special_chars_map") 478, val := Value.ref 45 }, { hash := PyData.keyHash P (Str.ofString "escape"), key := Value.str (Str.ofString "escape") 485, val := Value.ref 55 }] 14 }
noncomputable def h3v10 (P : Params) : Obj := { cls := Value.type "dict", data := Data.dict #[{ hash := PyData.keyHash P (Str.ofString "__name__"), key := Value.str (Str.ofString "__name__") 165, val := Value.str (Str.ofString "cpy313.fnmatch") 486 }, { hash := PyData.keyHash P (Str.ofString "__doc__"), key := Value.str (Str.ofString "__doc__") 166, val := Value.none }, { hash := PyData.keyHash P (Str.ofString "__package__"), key := Value.str (Str.ofString "__package__") 167, val := Value.none }, { hash := PyData.keyHash P (Str.ofString "__loader__"), key := Value.str (Str.ofString "__loader__") 168, val := Value.builtin "__main__.__loader__#opaque" }, { hash := PyData.keyHash P (Str.ofString "__spec__"), key := Value.str (Str.ofString "__spec__") 169, val := Value.none }, { hash := PyData.keyHash P (Str.ofString "__annotations__"), key := Value.str (Str.ofString "__annotations__") 170, val := Value.ref 6 }, { hash := PyData.keyHash P (Str.ofString "__builtins__"), key := Value.str (Str.ofString "__builtins__") 171, val := Value.ref 4 }, { hash := PyData.keyHash P (Str.ofString "__file__"), key := Value.str (Str.ofString "__file__") 173, val := Value.str (Str.ofString "/claim/cut.py") 172 }, { hash := PyData.keyHash P (Str.ofString "__cached__"), key := Value.str (Str.ofString "__cached__") 174, val := Value.none }, { hash := PyData.keyHash P (Str.ofString "_sre"), key := Value.str (Str.ofString "_sre") 275, val := Value.ref 12 }, { hash := PyData.keyHash P (Str.ofString "_twin_re_1"), key := Value.str (Str.ofString "_twin_re_1") 321, val := Value.ref 36 }, { hash := PyData.keyHash P (Str.ofString "translate"), key := Value.str (Str.ofString "translate") 330, val := Value.ref 43 }, { hash := PyData.keyHash P (Str.ofString "_special_chars_map"), key := Value.str (Str.ofString "_special_chars_map") 478, val := Value.ref 45 }, { hash := PyData.keyHash P (Str.ofString "escape"), key := Value.str (Str.ofString "escape") 485, val := Value.ref 55 }, { hash := PyData.keyHash P (Str.ofString "_translate"), key := Value.str (Str.ofString "_translate") 506, val := Value.ref 62 }] 15 }
noncomputable def h29v10 (P : Params) : Obj := { cls := Value.none, data := Data.fields #[Value.int 4 0, Value.int 0 0, Value.ref 42, Value.int 10 0, Value.int 0 0, Value.ref 54, Value.int 17 0, Value.int 0 0, Value.ref 61] }
noncomputable def h56v10 (P : Params) : Obj := { cls := Value.type "tuple", data := Data.seq #[] }
noncomputable def h57v10 (P : Params) : Obj := { cls := Value.none, data := Data.fields #[] }
noncomputable def h58v10 (P : Params) : Obj := { cls := Value.type "tuple", data := Data.seq #[Value.str (Str.ofString "pat") 491, Value.str (Str.ofString "STAR") 492, Value.str (Str.ofString "QUESTION_MARK") 493, Value.str (Str.ofString "res") 494, Value.str (Str.ofString "add") 495, Value.str (Str.ofString "i") 496, Value.str (Str.ofString "n") 497, Value.str (Str.ofString "c") 498, Value.str (Str.ofString "j") 499, Value.str (Str.ofString "stuff") 500, Value.str (Str.ofString "chunks") 501, Value.str (Str.ofString "k") 502, Value.str (Str.ofString "chunk") 503] }
noncomputable def h59v10 (P : Params) : Obj := { cls := Value.type "tuple", data := Data.seq #[] }
noncomputable def h60v10 (P : Params) : Obj := tmpl ar8 bd8 sc8 "_translate"
noncomputable def h61v10 (P : Params) : Obj := { cls := Value.type "code", data := Data.fields #[Value.str (Str.ofString "_translate") 488, Value.str (Str.ofString "_translate") 489, Value.str (Str.ofString "/claim/cut.py") 490, Value.int 17 0, Value.int 3 0, Value.int 0 0, Value.int 0 0, Value.int 3 0, Value.ref 56, Value.bool true, Value.int 276 0, Value.ref 57, Value.none, Value.ref 58, Value.ref 59, Value.ref 60, Value.int 504 0, Value.int 17 0, Value.str (Str.ofString "/claim/cut.py") 505] }
noncomputable def h62v10 (P : Params) : Obj := fobj ar8 bd8 sc8 "_translate" "cpy313.fnmatch" 486 61
noncomputable def h3v11 (P : Params) : Obj := { cls := Value.type "dict", data := Data.dict #[{ hash := PyData.keyHash P (Str.ofString "__name__"), key := Value.str (Str.ofString "__name__") 165, val := Value.str (Str.ofString "cpy313.fnmatch") 486 }, { hash := PyData.keyHash P (Str.ofString "__doc__"), key := Value.str (Str.ofString "__doc__") 166, val := Value.none }, { hash := PyData.keyHash P (Str.ofString "__package__"), key := Value.str (Str.ofString "__package__") 167, val := Value.none }, { hash := PyData.keyHash P (Str.ofString "__loader__"), key := Value.str (Str.ofString "__loader__") 168, val := Value.builtin "__main__.__loader__#opaque" }, { hash := PyData.keyHash P (Str.ofString "__spec__"), key := Value.str (Str.ofString "__spec__") 169, val := Value.none }, { hash := PyData.keyHash P (Str.ofString "__annotations__"), key := Value.str (Str.ofString "__annotations__") 170, val := Value.ref 6 }, { hash := PyData.keyHash P (Str.ofString "__builtins__"), key := Value.str (Str.ofString "__builtins__") 171, val := Value.ref 4 }, { hash := PyData.keyHash P (Str.ofString "__file__"), key := Value.str (Str.ofString "__file__") 173, val := Value.str (Str.ofString "/claim/cut.py") 172 }, { hash := PyData.keyHash P (Str.ofString "__cached__"), key := Value.str (Str.ofString "__cached__") 174, val := Value.none }, { hash := PyData.keyHash P (Str.ofString "_sre"), key := Value.str (Str.ofString "_sre") 275, val := Value.ref 12 }, { hash := PyData.keyHash P (Str.ofString "_twin_re_1"), key := Value.str (Str.ofString "_twin_re_1") 321, val := Value.ref 36 }, { hash := PyData.keyHash P (Str.ofString "translate"), key := Value.str (Str.ofString "translate") 330, val := Value.ref 43 }, { hash := PyData.keyHash P (Str.ofString "_special_chars_map"), key := Value.str (Str.ofString "_special_chars_map") 478, val := Value.ref 45 }, { hash := PyData.keyHash P (Str.ofString "escape"), key := Value.str (Str.ofString "escape") 485, val := Value.ref 55 }, { hash := PyData.keyHash P (Str.ofString "_translate"), key := Value.str (Str.ofString "_translate") 506, val := Value.ref 62 }, { hash := PyData.keyHash P (Str.ofString "_join_translated_parts"), key := Value.str (Str.ofString "_join_translated_parts") 519, val := Value.ref 69 }] 16 }
noncomputable def h29v11 (P : Params) : Obj := { cls := Value.none, data := Data.fields #[Value.int 4 0, Value.int 0 0, Value.ref 42, Value.int 10 0, Value.int 0 0, Value.ref 54, Value.int 17 0, Value.int 0 0, Value.ref 61, Value.int 79 0, Value.int 0 0, Value.ref 68] }
noncomputable def h63v11 (P : Params) : Obj := { cls := Value.type "tuple", data := Data.seq #[] }
noncomputable def h64v11 (P : Params) : Obj := { cls := Value.none, data := Data.fields #[] }
noncomputable def h65v11 (P : Params) : Obj := { cls := Value.type "tuple", data := Data.seq #[Value.str (Str.ofString "inp") 510, Value.str (Str.ofString "STAR") 511, Value.str (Str.ofString "res") 512, Value.str (Str.ofString "add") 513, Value.str (Str.ofString "i") 514, Value.str (Str.ofString "n") 515, Value.str (Str.ofString "fixed") 516] }
noncomputable def h66v11 (P : Params) : Obj := { cls := Value.type "tuple", data := Data.seq #[] }
noncomputable def h67v11 (P : Params) : Obj := tmpl ar9 bd9 sc9 "_join_translated_parts"
noncomputable def h68v11 (P : Params) : Obj := { cls := Value.type "code", data := Data.fields #[Value.str (Str.ofString "_join_translated_parts") 507, Value.str (Str.ofString "_join_translated_parts") 508, Value.str (Str.ofString "/claim/cut.py") 509, Value.int 79 0, Value.int 2 0, Value.int 0 0, Value.int 0 0, Value.int 3 0, Value.ref 63, Value.bool true, Value.int 276 0, Value.ref 64, Value.none, Value.ref 65, Value.ref 66, Value.ref 67, Value.int 517 0, Value.int 79 0, Value.str (Str.ofString "/claim/cut.py") 518] }
noncomputable def h69v11 (P : Params) : Obj := fobj ar9 bd9 sc9 "_join_translated_parts" "cpy313.fnmatch" 486 68
noncomputable def h3v12 (P : Params) : Obj := { cls := Value.type "dict", data := Data.dict #[{ hash := PyData.keyHash P (Str.ofString "__name__"), key := Value.str (Str.ofString "__name__") 165, val := Value.str (Str.ofString "cpy313.stringprep") 520 }, { hash := PyData.keyHash P (Str.ofString "__doc__"), key := Value.str (Str.ofString "__doc__") 166, val := Value.none }, { hash := PyData.keyHash P (Str.ofString "__package__"), key := Value.str (Str.ofString "__package__") 167, val := Value.none }, { hash := PyData.keyHash P (Str.ofString "__loader__"), key := Value.str (Str.ofString "__loader__") 168, val := Value.builtin "__main__.__loader__#opaque" }, { hash := PyData.keyHash P (Str.ofString "__spec__"), key := Value.str (Str.ofString "__spec__") 169, val := Value.none }, { hash := PyData.keyHash P (Str.ofString "__annotations__"), key := Value.str (Str.ofString "__annotations__") 170, val := Value.ref 6 }, { hash := PyData.keyHash P (Str.ofString "__builtins__"), key := Value.str (Str.ofString "__builtins__") 171, val := Value.ref 4 }, { hash := PyData.keyHash P (Str.ofString "__file__"), key := Value.str (Str.ofString "__file__") 173, val := Value.str (Str.ofString "/claim/cut.py") 172 }, { hash := PyData.keyHash P (Str.ofString "__cached__"), key := Value.str (Str.ofString "__cached__") 174, val := Value.none }, { hash := PyData.keyHash P (Str.ofString "_sre"), key := Value.str (Str.ofString "_sre") 275, val := Value.ref 12 }, { hash := PyData.keyHash P (Str.ofString "_twin_re_1"), key := Value.str (Str.ofString "_twin_re_1") 321, val := Value.ref 36 }, { hash := PyData.keyHash P (Str.ofString "translate"), key := Value.str (Str.ofString "translate") 330, val := Value.ref 43 }, { hash := PyData.keyHash P (Str.ofString "_special_chars_map"), key := Value.str (Str.ofString "_special_chars_map") 478, val := Value.ref 45 }, { hash := PyData.keyHash P (Str.ofString "escape"), key := Value.str (Str.ofString "escape") 485, val := Value.ref 55 }, { hash := PyData.keyHash P (Str.ofString "_translate"), key := Value.str (Str.ofString "_translate") 506, val := Value.ref 62 }, { hash := PyData.keyHash P (Str.ofString "_join_translated_parts"), key := Value.str (Str.ofString "_join_translated_parts") 519, val := Value.ref 69 }] 16 }
noncomputable def h3v13 (P : Params) : Obj := { cls := Value.type "dict", data := Data.dict #[{ hash := PyData.keyHash P (Str.ofString "__name__"), key := Value.str (Str.ofString "__name__") 165, val := Value.str (Str.ofString "cpy313.stringprep") 520 }, { hash := PyData.keyHash P (Str.ofString "__doc__"), key := Value.str (Str.ofString "__doc__") 166, val := Value.none }, { hash := PyData.keyHash P (Str.ofString "__package__"), key := Value.str (Str.ofString "__package__") 167, val := Value.none }, { hash := PyData.keyHash P (Str.ofString "__loader__"), key := Value.str (Str.ofString "__loader__") 168, val := Value.builtin "__main__.__loader__#opaque" }, { hash := PyData.keyHash P (Str.ofString "__spec__"), key := Value.str (Str.ofString "__spec__") 169, val := Value.none }, { hash := PyData.keyHash P (Str.ofString "__annotations__"), key := Value.str (Str.ofString "__annotations__") 170, val := Value.ref 6 }, { hash := PyData.keyHash P (Str.ofString "__builtins__"), key := Value.str (Str.ofString "__builtins__") 171, val := Value.ref 4 }, { hash := PyData.keyHash P (Str.ofString "__file__"), key := Value.str (Str.ofString "__file__") 173, val := Value.str (Str.ofString "/claim/cut.py") 172 }, { hash := PyData.keyHash P (Str.ofString "__cached__"), key := Value.str (Str.ofString "__cached__") 174, val := Value.none }, { hash := PyData.keyHash P (Str.ofString "_sre"), key := Value.str (Str.ofString "_sre") 275, val := Value.ref 12 }, { hash := PyData.keyHash P (Str.ofString "_twin_re_1"), key := Value.str (Str.ofString "_twin_re_1") 321, val := Value.ref 36 }, { hash := PyData.keyHash P (Str.ofString "translate"), key := Value.str (Str.ofString "translate") 330, val := Value.ref 43 }, { hash := PyData.keyHash P (Str.ofString "_special_chars_map"), key := Value.str (Str.ofString "_special_chars_map") 478, val := Value.ref 45 }, { hash := PyData.keyHash P (Str.ofString "escape"), key := Value.str (Str.ofString "escape") 485, val := Value.ref 55 }, { hash := PyData.keyHash P (Str.ofString "_translate"), key := Value.str (Str.ofString "_translate") 506, val := Value.ref 62 }, { hash := PyData.keyHash P (Str.ofString "_join_translated_parts"), key := Value.str (Str.ofString "_join_translated_parts") 519, val := Value.ref 69 }, { hash := PyData.keyHash P (Str.ofString "b1_set"), key := Value.str (Str.ofString "b1_set") 581, val := Value.ref 77 }] 17 }
noncomputable def h70v13 (P : Params) : Obj := { cls := Value.type "list", data := Data.seq #[Value.int 173 522, Value.int 847 523, Value.int 6150 524, Value.int 6155 525, Value.int 6156 526, Value.int 6157 527, Value.int 8203 528, Value.int 8204 529, Value.int 8205 530, Value.int 8288 531, Value.int 65279 532] }
noncomputable def h71v13 (P : Params) : Obj := { cls := Value.type "range", data := Data.fields #[Value.int 65024 533, Value.int 65040 534, Value.int 1 535] }
noncomputable def h72v13 (P : Params) : Obj := { cls := Value.type "list", data := Data.seq #[Value.int 65024 538, Value.int 65025 539, Value.int 65026 540, Value.int 65027 541, Value.int 65028 542, Value.int 65029 543, Value.int 65030 544, Value.int 65031 545, Value.int 65032 546, Value.int 65033 547, Value.int 65034 548, Value.int 65035 549, Value.int 65036 550, Value.int 65037 551, Value.int 65038 552, Value.int 65039 553] 18 }
noncomputable def h73v13 (P : Params) : Obj := { cls := Value.type "range_iterator", data := Data.fields #[Value.int 65040 0, Value.int 0 0, Value.int 1 0] }
noncomputable def h74v13 (P : Params) : Obj := { cls := Value.type "tuple", data := Data.seq #[] }
noncomputable def h75v13 (P : Params) : Obj := { cls := Value.type "StopIteration", data := Data.fields #[Value.ref 74, Value.none, Value.none, Value.none, Value.bool false, Value.none] }
noncomputable def h76v13 (P : Params) : Obj := { cls := Value.type "list", data := Data.seq #[Value.int 173 522, Value.int 847 523, Value.int 6150 524, Value.int 6155 525, Value.int 6156 526, Value.int 6157 527, Value.int 8203 528, Value.int 8204 529, Value.int 8205 530, Value.int 8288 531, Value.int 65279 532, Value.int 65024 538, Value.int 65025 539, Value.int 65026 540, Value.int 65027 541, Value.int 65028 542, Value.int 65029 543, Value.int 65030 544, Value.int 65031 545, Value.int 65032 546, Value.int 65033 547, Value.int 65034 548, Value.int 65035 549, Value.int 65036 550, Value.int 65037 551, Value.int 65038 552, Value.int 65039 553] }
noncomputable def h77v13 (P : Params) : Obj := ob77 P
noncomputable def h78v13 (P : Params) : Obj := { cls := Value.type "list_iterator", data := Data.fields #[Value.none, Value.int 27 0] }
noncomputable def h79v13 (P : Params) : Obj := { cls := Value.type "tuple", data := Data.seq #[] }
noncomputable def h80v13 (P : Params) : Obj := { cls := Value.type "StopIteration", data := Data.fields #[Value.ref 79, Value.none, Value.none, Value.none, Value.bool false, Value.none] }
noncomputable def h3v14 (P : Params) : Obj := { cls := Value.type "dict", data := Data.dict #[{ hash := PyData.keyHash P (Str.ofString "__name__"), key := Value.str (Str.ofString "__name__") 165, val := Value.str (Str.ofString "cpy313.stringprep") 520 }, { hash := PyData.keyHash P (Str.ofString "__doc__"), key := Value.str (Str.ofString "__doc__") 166, val := Value.none }, { hash := PyData.keyHash P (Str.ofString "__package__"), key := Value.str (Str.ofString "__package__") 167, val := Value.none }, { hash := PyData.keyHash P (Str.ofString "__loader__"), key := Value.str (Str.ofString "__loader__") 168, val := Value.builtin "__main__.__loader__#opaque" }, { hash := PyData.keyHash P (Str.ofString "__spec__"), key := Value.str (Str.ofString "__spec__") 169, val := Value.none }, { hash := PyData.keyHash P (Str.ofString "__annotations__"), key := Value.str (Str.ofString "__annotations__") 170, val := Value.ref 6 }, { hash := PyData.keyHash P (Str.ofString "__builtins__"), key := Value.str (Str.ofString "__builtins__") 171, val := Value.ref 4 }, { hash := PyData.keyHash P (Str.ofString "__file__"), key := Value.str (Str.ofString "__file__") 173, val := Value.str (Str.ofString "/claim/cut.py") 172 }, { hash := PyData.keyHash P (Str.ofString "__cached__"), key := Value.str (Str.ofString "__cached__") 174, val := Value.none }, { hash := PyData.keyHash P (Str.ofString "_sre"), key := Value.str (Str.ofString "_sre") 275, val := Value.ref 12 }, { hash := PyData.keyHash P (Str.ofString "_twin_re_1"), key := Value.str (Str.ofString "_twin_re_1") 321, val := Value.ref 36 }, { hash := PyData.keyHash P (Str.ofString "translate"), key := Value.str (Str.ofString "translate") 330, val := Value.ref 43 }, { hash := PyData.keyHash P (Str.ofString "_special_chars_map"), key := Value.str (Str.ofString "_special_chars_map") 478, val := Value.ref 45 }, { hash := PyData.keyHash P (Str.ofString "escape"), key := Value.str (Str.ofString "escape") 485, val := Value.ref 55 }, { hash := PyData.keyHash P (Str.ofString "_translate"), key := Value.str (Str.ofString "_translate") 506, val := Value.ref 62 }, { hash := PyData.keyHash P (Str.ofString "_join_translated_parts"), key := Value.str (Str.ofString "_join_translated_parts") 519, val := Value.ref 69 }, { hash := PyData.keyHash P (Str.ofString "b1_set"), key := Value.str (Str.ofString "b1_set") 581, val := Value.ref 77 }, { hash := PyData.keyHash P (Str.ofString "in_table_b1"), key := Value.str (Str.ofString "in_table_b1") 588, val := Value.ref 87 }] 18 }
noncomputable def h29v14 (P : Params) : Obj := { cls := Value.none, data := Data.fields #[Value.int 4 0, Value.int 0 0, Value.ref 42, Value.int 10 0, Value.int 0 0, Value.ref 54, Value.int 17 0, Value.int 0 0, Value.ref 61, Value.int 79 0, Value.int 0 0, Value.ref 68, Value.int 108 0, Value.int 0 0, Value.ref 86] }
noncomputable def h81v14 (P : Params) : Obj := { cls := Value.type "tuple", data := Data.seq #[] }
noncomputable def h82v14 (P : Params) : Obj := { cls := Value.none, data := Data.fields #[] }
noncomputable def h83v14 (P : Params) : Obj := { cls := Value.type "tuple", data := Data.seq #[Value.str (Str.ofString "code") 585] }
noncomputable def h84v14 (P : Params) : Obj := { cls := Value.type "tuple", data := Data.seq #[] }
noncomputable def h85v14 (P : Params) : Obj := tmpl ar12 bd12 sc12 "in_table_b1"
noncomputable def h86v14 (P : Params) : Obj := { cls := Value.type "code", data := Data.fields #[Value.str (Str.ofString "in_table_b1") 582, Value.str (Str.ofString "in_table_b1") 583, Value.str (Str.ofString "/claim/cut.py") 584, Value.int 108 0, Value.int 1 0, Value.int 0 0, Value.int 0 0, Value.int 3 0, Value.ref 81, Value.bool true, Value.int 276 0, Value.ref 82, Value.none, Value.ref 83, Value.ref 84, Value.ref 85, Value.int 586 0, Value.int 108 0, Value.str (Str.ofString "/claim/cut.py") 587] }
noncomputable def h87v14 (P : Params) : Obj := fobj ar12 bd12 sc12 "in_table_b1" "cpy313.stringprep" 520 86
noncomputable def h3v15 (P : Params) : Obj := { cls := Value.type "dict", data := Data.dict #[{ hash := PyData.keyHash P (Str.ofString "__name__"), key := Value.str (Str.ofString "__name__") 165, val := Value.str (Str.ofString "cpy313.stringprep") 520 }, { hash := PyData.keyHash P (Str.ofString "__doc__"), key := Value.str (Str.ofString "__doc__") 166, val := Value.none }, { hash := PyData.keyHash P (Str.ofString "__package__"), key := Value.str (Str.ofString "__package__") 167, val := Value.none }, { hash := PyData.keyHash P (Str.ofString "__loader__"), key := Value.str (Str.ofString "__loader__") 168, val := Value.builtin "__main__.__loader__#opaque" }, { hash := PyData.keyHash P (Str.ofString "__spec__"), key := Value.str (Str.ofString "__spec__") 169, val := Value.none }, { hash := PyData.keyHash P (Str.ofString "__annotations__"), key := Value.str (Str.ofString "__annotations__") 170, val := Value.ref 6 }, { hash := PyData.keyHash P (Str.ofString "__builtins__"), key := Value.str (Str.ofString "__builtins__") 171, val := Value.ref 4 }, { hash := PyData.keyHash P (Str.ofString "__file__"), key := Value.str (Str.ofString "__file__") 173, val := Value.str (Str.ofString "/claim/cut.py") 172 }, { hash := PyData.keyHash P (Str.ofString "__cached__"), key := Value.str (Str.ofString "__cached__") 174, val := Value.none }, { hash := PyData.keyHash P (Str.ofString "_sre"), key := Value.str (Str.ofString "_sre") 275, val := Value.ref 12 }, { hash := PyData.keyHash P (Str.ofString "_twin_re_1"), key := Value.str (Str.ofString "_twin_re_1") 321, val := Value.ref 36 }, { hash := PyData.keyHash P (Str.ofString "translate"), key := Value.str (Str.ofString "translate") 330, val := Value.ref 43 }, { hash := PyData.keyHash P (Str.ofString "_special_chars_map"), key := Value.str (Str.ofString "_special_chars_map") 478, val := Value.ref 45 }, { hash := PyData.keyHash P (Str.ofString "escape"), key := Value.str (Str.ofString "escape") 485, val := Value.ref 55 }, { hash := PyData.keyHash P (Str.ofString "_translate"), key := Value.str (Str.ofString "_translate") 506, val := Value.ref 62 }, { hash := PyData.keyHash P (Str.ofString "_join_translated_parts"), key := Value.str (Str.ofString "_join_translated_parts") 519, val := Value.ref 69 }, { hash := PyData.keyHash P (Str.ofString "b1_set"), key := Value.str (Str.ofString "b1_set") 581, val := Value.ref 77 }, { hash := PyData.keyHash P (Str.ofString "in_table_b1"), key := Value.str (Str.ofString "in_table_b1") 588, val := Value.ref 87 }, { hash := PyData.keyHash P (Str.ofString "b3_exceptions"), key := Value.str (Str.ofString "b3_exceptions") 2539, val := Value.ref 88 }] 19 }
noncomputable def h88v15 (P : Params) : Obj := { cls := .type "dict", data := .dict es88.toArray 650 }
noncomputable def h89v15 (P : Params) : Obj := { cls := .type "dict", data := .dict (ents 3 640 ((tab88.drop 17).take 17)).toArray 17 }
noncomputable def h90v15 (P : Params) : Obj := { cls := .type "dict", data := .dict (ents 3 691 ((tab88.drop 34).take 17)).toArray 17 }
noncomputable def h91v15 (P : Params) : Obj := { cls := .type "dict", data := .dict (ents 3 742 ((tab88.drop 51).take 17)).toArray 17 }
noncomputable def h92v15 (P : Params) : Obj := { cls := .type "dict", data := .dict (ents 3 793 ((tab88.drop 68).take 17)).toArray 17 }
noncomputable def h93v15 (P : Params) : Obj := { cls := .type "dict", data := .dict (ents 3 844 ((tab88.drop 85).take 17)).toArray 17 }
noncomputable def h94v15 (P : Params) : Obj := { cls := .type "dict", data := .dict (ents 3 895 ((tab88.drop 102).take 17)).toArray 17 }
noncomputable def h95v15 (P : Params) : Obj := { cls := .type "dict", data := .dict (ents 3 946 ((tab88.drop 119).take 17)).toArray 17 }
noncomputable def h96v15 (P : Params) : Obj := { cls := .type "dict", data := .dict (ents 3 997 ((tab88.drop 136).take 17)).toArray 17 }
noncomputable def h97v15 (P : Params) : Obj := { cls := .type "dict", data := .dict (ents 3 1048 ((tab88.drop 153).take 17)).toArray 17 }
noncomputable def h98v15 (P : Params) : Obj := { cls := .type "dict", data := .dict (ents 3 1099 ((tab88.drop 170).take 17)).toArray 17 }
noncomputable def h99v15 (P : Params) : Obj := { cls := .type "dict", data := .dict (ents 3 1150 ((tab88.drop 187).take 17)).toArray 17 }
noncomputable def h100v15 (P : Params) : Obj := { cls := .type "dict", data := .dict (ents 3 1201 ((tab88.drop 204).take 17)).toArray 17 }
noncomputable def h101v15 (P : Params) : Obj := { cls := .type "dict", data := .dict (ents 3 1252 ((tab88.drop 221).take 17)).toArray 17 }
noncomputable def h102v15 (P : Params) : Obj := { cls := .type "dict", data := .dict (ents 3 1303 ((tab88.drop 238).take 17)).toArray 17 }
noncomputable def h103v15 (P : Params) : Obj := { cls := .type "dict", data := .dict (ents 3 1354 ((tab88.drop 255).take 17)).toArray 17 }
noncomputable def h104v15 (P : Params) : Obj := { cls := .type "dict", data := .dict (ents 3 1405 ((tab88.drop 272).take 17)).toArray 17 }
noncomputable def h105v15 (P : Params) : Obj := { cls := .type "dict", data := .dict (ents 3 1456 ((tab88.drop 289).take 17)).toArray 17 }
noncomputable def h106v15 (P : Params) : Obj := { cls := .type "dict", data := .dict (ents 3 1507 ((tab88.drop 306).take 17)).toArray 17 }
noncomputable def h107v15 (P : Params) : Obj := { cls := .type "dict", data := .dict (ents 3 1558 ((tab88.drop 323).take 17)).toArray 17 }
noncomputable def h108v15 (P : Params) : Obj := { cls := .type "dict", data := .dict (ents 3 1609 ((tab88.drop 340).take 17)).toArray 17 }
noncomputable def h109v15 (P : Params) : Obj := { cls := .type "dict", data := .dict (ents 3 1660 ((tab88.drop 357).take 17)).toArray 17 }
noncomputable def h110v15 (P : Params) : Obj := { cls := .type "dict", data := .dict (ents 3 1711 ((tab88.drop 374).take 17)).toArray 17 }
noncomputable def h111v15 (P : Params) : Obj := { cls := .type "dict", data := .dict (ents 3 1762 ((tab88.drop 391).take 17)).toArray 17 }
noncomputable def h112v15 (P : Params) : Obj := { cls := .type "dict", data := .dict (ents 3 1813 ((tab88.drop 408).take 17)).toArray 17 }
noncomputable def h113v15 (P : Params) : Obj := { cls := .type "dict", data := .dict (ents 3 1864 ((tab88.drop 425).take 17)).toArray 17 }
noncomputable def h114v15 (P : Params) : Obj := { cls := .type "dict", data := .dict (ents 3 1915 ((tab88.drop 442).take 17)).toArray 17 }
noncomputable def h115v15 (P : Params) : Obj := { cls := .type "dict", data := .dict (ents 3 1966 ((tab88.drop 459).take 17)).toArray 17 }
noncomputable def h116v15 (P : Params) : Obj := { cls := .type "dict", data := .dict (ents 3 2017 ((tab88.drop 476).take 17)).toArray 17 }
noncomputable def h117v15 (P : Params) : Obj := { cls := .type "dict", data := .dict (ents 3 2068 ((tab88.drop 493).take 17)).toArray 17 }
noncomputable def h118v15 (P : Params) : Obj := { cls := .type "dict", data := .dict (ents 3 2119 ((tab88.drop 510).take 17)).toArray 17 }
noncomputable def h119v15 (P : Params) : Obj := { cls := .type "dict", data := .dict (ents 3 2170 ((tab88.drop 527).take 17)).toArray 17 }
noncomputable def h120v15 (P : Params) : Obj := { cls := .type "dict", data := .dict (ents 3 2221 ((tab88.drop 544).take 17)).toArray 17 }
noncomputable def h121v15 (P : Params) : Obj := { cls := .type "dict", data := .dict (ents 3 2272 ((tab88.drop 561).take 17)).toArray 17 }
noncomputable def h122v15 (P : Params) : Obj := { cls := .type "dict", data := .dict (ents 3 2323 ((tab88.drop 578).take 17)).toArray 17 }
noncomputable def h123v15 (P : Params) : Obj := { cls := .type "dict", data := .dict (ents 3 2374 ((tab88.drop 595).take 17)).toArray 17 }
noncomputable def h124v15 (P : Params) : Obj := { cls := .type "dict", data := .dict (ents 3 2425 ((tab88.drop 612).take 17)).toArray 17 }
noncomputable def h125v15 (P : Params) : Obj := { cls := .type "dict", data := .dict (ents 3 2476 ((tab88.drop 629).take 17)).toArray 17 }
noncomputable def h126v15 (P : Params) : Obj := { cls := .type "dict", data := .dict (ents 2 2527 (tab88.drop 646)).toArray 4 }
noncomputable def h3v16 (P : Params) : Obj := { cls := Value.type "dict", data := Data.dict #[{ hash := PyData.keyHash P (Str.ofString "__name__"), key := Value.str (Str.ofString "__name__") 165, val := Value.str (Str.ofString "cpy313.stringprep") 520 }, { hash := PyData.keyHash P (Str.ofString "__doc__"), key := Value.str (Str.ofString "__doc__") 166, val := Value.none }, { hash := PyData.keyHash P (Str.ofString "__package__"), key := Value.str (Str.ofString "__package__") 167, val := Value.none }, { hash := PyData.keyHash P (Str.ofString "__loader__"), key := Value.str (Str.ofString "__loader__") 168, val := Value.builtin "__main__.__loader__#opaque" }, { hash := PyData.keyHash P (Str.ofString "__spec__"), key := Value.str (Str.ofString "__spec__") 169, val := Value.none }, { hash := PyData.keyHash P (Str.ofString "__annotations__"), key := Value.str (Str.ofString "__annotations__") 170, val := Value.ref 6 }, { hash := PyData.keyHash P (Str.ofString "__builtins__"), key := Value.str (Str.ofString "__builtins__") 171, val := Value.ref 4 }, { hash := PyData.keyHash P (Str.ofString "__file__"), key := Value.str (Str.ofString "__file__") 173, val := Value.str (Str.ofString "/claim/cut.py") 172 }, { hash := PyData.keyHash P (Str.ofString "__cached__"), key := Value.str (Str.ofString "__cached__") 174, val := Value.none }, { hash := PyData.keyHash P (Str.ofString "_sre"), key := Value.str (Str.ofString "_sre") 275, val := Value.ref 12 }, { hash := PyData.keyHash P (Str.ofString "_twin_re_1"), key := Value.str (Str.ofString "_twin_re_1") 321, val := Value.ref 36 }, { hash := PyData.keyHash P (Str.ofString "translate"), key := Value.str (Str.ofString "translate") 330, val := Value.ref 43 }, { hash := PyData.keyHash P (Str.ofString "_special_chars_map"), key := Value.str (Str.ofString "_special_chars_map") 478, val := Value.ref 45 }, { hash := PyData.keyHash P (Str.ofString "escape"), key := Value.str (Str.ofString "escape") 485, val := Value.ref 55 }, { hash := PyData.keyHash P (Str.ofString "_translate"), key := Value.str (Str.ofString "_translate") 506, val := Value.ref 62 }, { hash := PyData.keyHash P (Str.ofString "_join_translated_parts"), key := Value.str (Str.ofString "_join_translated_parts") 519, val := Value.ref 69 }, { hash := PyData.keyHash P (Str.ofString "b1_set"), key := Value.str (Str.ofString "b1_set") 581, val := Value.ref 77 }, { hash := PyData.keyHash P (Str.ofString "in_table_b1"), key := Value.str (Str.ofString "in_table_b1") 588, val := Value.ref 87 }, { hash := PyData.keyHash P (Str.ofString "b3_exceptions"), key := Value.str (Str.ofString "b3_exceptions") 2539, val := Value.ref 88 }, { hash := PyData.keyHash P (Str.ofString "map_table_b3"), key := Value.str (Str.ofString "map_table_b3") 2547, val := Value.ref 133 }] 20 }
noncomputable def h29v16 (P : Params) : Obj := { cls := Value.none, data := Data.fields #[Value.int 4 0, Value.int 0 0, Value.ref 42, Value.int 10 0, Value.int 0 0, Value.ref 54, Value.int 17 0, Value.int 0 0, Value.ref 61, Value.int 79 0, Value.int 0 0, Value.ref 68, Value.int 108 0, Value.int 0 0, Value.ref 86, Value.int 111 0, Value.int 0 0, Value.ref 132] }
noncomputable def h127v16 (P : Params) : Obj := { cls := Value.type "tuple", data := Data.seq #[] }
noncomputable def h128v16 (P : Params) : Obj := { cls := Value.none, data := Data.fields #[] }
noncomputable def h129v16 (P : Params) : Obj := { cls := Value.type "tuple", data := Data.seq #[Value.str (Str.ofString "code") 2543, Value.str (Str.ofString "r") 2544] }
noncomputable def h130v16 (P : Params) : Obj := { cls := Value.type "tuple", data := Data.seq #[] }
noncomputable def h131v16 (P : Params) : Obj := tmpl ar14 bd14 sc14 "map_table_b3"
noncomputable def h132v16 (P : Params) : Obj := { cls := Value.type "code", data := Data.fields #[Value.str (Str.ofString "map_table_b3") 2540, Value.str (Str.ofString "map_table_b3") 2541, Value.str (Str.ofString "/claim/cut.py") 2542, Value.int 111 0, Value.int 1 0, Value.int 0 0, Value.int 0 0, Value.int 3 0, Value.ref 127, Value.bool true, Value.int 276 0, Value.ref 128, Value.none, Value.ref 129, Value.ref 130, Value.ref 131, Value.int 2545 0, Value.int 111 0, Value.str (Str.ofString "/claim/cut.py") 2546] }
noncomputable def h133v16 (P : Params) : Obj := fobj ar14 bd14 sc14 "map_table_b3" "cpy313.stringprep" 520 132
noncomputable def h3v17 (P : Params) : Obj := { cls := Value.type "dict", data := Data.dict #[{ hash := PyData.keyHash P (Str.ofString "__name__"), key := Value.str (Str.ofString "__name__") 165, val := Value.str (Str.ofString "law_rx0107_01") 2548 }, { hash := PyData.keyHash P (Str.ofString "__doc__"), key := Value.str (Str.ofString "__doc__") 166, val := Value.none }, { hash := PyData.keyHash P (Str.ofString "__package__"), key := Value.str (Str.ofString "__package__") 167, val := Value.none }, { hash := PyData.keyHash P (Str.ofString "__loader__"), key := Value.str (Str.ofString "__loader__") 168, val := Value.builtin "__main__.__loader__#opaque" }, { hash := PyData.keyHash P (Str.ofString "__spec__"), key := Value.str (Str.ofString "__spec__") 169, val := Value.none }, { hash := PyData.keyHash P (Str.ofString "__annotations__"), key := Value.str (Str.ofString "__annotations__") 170, val := Value.ref 6 }, { hash := PyData.keyHash P (Str.ofString "__builtins__"), key := Value.str (Str.ofString "__builtins__") 171, val := Value.ref 4 }, { hash := PyData.keyHash P (Str.ofString "__file__"), key := Value.str (Str.ofString "__file__") 173, val := Value.str (Str.ofString "/claim/cut.py") 172 }, { hash := PyData.keyHash P (Str.ofString "__cached__"), key := Value.str (Str.ofString "__cached__") 174, val := Value.none }, { hash := PyData.keyHash P (Str.ofString "_sre"), key := Value.str (Str.ofString "_sre") 275, val := Value.ref 12 }, { hash := PyData.keyHash P (Str.ofString "_twin_re_1"), key := Value.str (Str.ofString "_twin_re_1") 321, val := Value.ref 36 }, { hash := PyData.keyHash P (Str.ofString "translate"), key := Value.str (Str.ofString "translate") 330, val := Value.ref 43 }, { hash := PyData.keyHash P (Str.ofString "_special_chars_map"), key := Value.str (Str.ofString "_special_chars_map") 478, val := Value.ref 45 }, { hash := PyData.keyHash P (Str.ofString "escape"), key := Value.str (Str.ofString "escape") 485, val := Value.ref 55 }, { hash := PyData.keyHash P (Str.ofString "_translate"), key := Value.str (Str.ofString "_translate") 506, val := Value.ref 62 }, { hash := PyData.keyHash P (Str.ofString "_join_translated_parts"), key := Value.str (Str.ofString "_join_translated_parts") 519, val := Value.ref 69 }, { hash := PyData.keyHash P (Str.ofString "b1_set"), key := Value.str (Str.ofString "b1_set") 581, val := Value.ref 77 }, { hash := PyData.keyHash P (Str.ofString "in_table_b1"), key := Value.str (Str.ofString "in_table_b1") 588, val := Value.ref 87 }, { hash := PyData.keyHash P (Str.ofString "b3_exceptions"), key := Value.str (Str.ofString "b3_exceptions") 2539, val := Value.ref 88 }, { hash := PyData.keyHash P (Str.ofString "map_table_b3"), key := Value.str (Str.ofString "map_table_b3") 2547, val := Value.ref 133 }] 20 }
noncomputable def h3v18 (P : Params) : Obj := { cls := Value.type "dict", data := Data.dict #[{ hash := PyData.keyHash P (Str.ofString "__name__"), key := Value.str (Str.ofString "__name__") 165, val := Value.str (Str.ofString "law_rx0107_01") 2548 }, { hash := PyData.keyHash P (Str.ofString "__doc__"), key := Value.str (Str.ofString "__doc__") 166, val := Value.none }, { hash := PyData.keyHash P (Str.ofString "__package__"), key := Value.str (Str.ofString "__package__") 167, val := Value.none }, { hash := PyData.keyHash P (Str.ofString "__loader__"), key := Value.str (Str.ofString "__loader__") 168, val := Value.builtin "__main__.__loader__#opaque" }, { hash := PyData.keyHash P (Str.ofString "__spec__"), key := Value.str (Str.ofString "__spec__") 169, val := Value.none }, { hash := PyData.keyHash P (Str.ofString "__annotations__"), key := Value.str (Str.ofString "__annotations__") 170, val := Value.ref 6 }, { hash := PyData.keyHash P (Str.ofString "__builtins__"), key := Value.str (Str.ofString "__builtins__") 171, val := Value.ref 4 }, { hash := PyData.keyHash P (Str.ofString "__file__"), key := Value.str (Str.ofString "__file__") 173, val := Value.str (Str.ofString "/claim/cut.py") 172 }, { hash := PyData.keyHash P (Str.ofString "__cached__"), key := Value.str (Str.ofString "__cached__") 174, val := Value.none }, { hash := PyData.keyHash P (Str.ofString "_sre"), key := Value.str (Str.ofString "_sre") 275, val := Value.ref 12 }, { hash := PyData.keyHash P (Str.ofString "_twin_re_1"), key := Value.str (Str.ofString "_twin_re_1") 321, val := Value.ref 36 }, { hash := PyData.keyHash P (Str.ofString "translate"), key := Value.str (Str.ofString "translate") 330, val := Value.ref 43 }, { hash := PyData.keyHash P (Str.ofString "_special_chars_map"), key := Value.str (Str.ofString "_special_chars_map") 478, val := Value.ref 45 }, { hash := PyData.keyHash P (Str.ofString "escape"), key := Value.str (Str.ofString "escape") 485, val := Value.ref 55 }, { hash := PyData.keyHash P (Str.ofString "_translate"), key := Value.str (Str.ofString "_translate") 506, val := Value.ref 62 }, { hash := PyData.keyHash P (Str.ofString "_join_translated_parts"), key := Value.str (Str.ofString "_join_translated_parts") 519, val := Value.ref 69 }, { hash := PyData.keyHash P (Str.ofString "b1_set"), key := Value.str (Str.ofString "b1_set") 581, val := Value.ref 77 }, { hash := PyData.keyHash P (Str.ofString "in_table_b1"), key := Value.str (Str.ofString "in_table_b1") 588, val := Value.ref 87 }, { hash := PyData.keyHash P (Str.ofString "b3_exceptions"), key := Value.str (Str.ofString "b3_exceptions") 2539, val := Value.ref 88 }, { hash := PyData.keyHash P (Str.ofString "map_table_b3"), key := Value.str (Str.ofString "map_table_b3") 2547, val := Value.ref 133 }, { hash := PyData.keyHash P (Str.ofString "_law_several"), key := Value.str (Str.ofString "_law_several") 2555, val := Value.ref 140 }] 21 }
noncomputable def h29v18 (P : Params) : Obj := { cls := Value.none, data := Data.fields #[Value.int 4 0, Value.int 0 0, Value.ref 42, Value.int 10 0, Value.int 0 0, Value.ref 54, Value.int 17 0, Value.int 0 0, Value.ref 61, Value.int 79 0, Value.int 0 0, Value.ref 68, Value.int 108 0, Value.int 0 0, Value.ref 86, Value.int 111 0, Value.int 0 0, Value.ref 132, Value.int 117 0, Value.int 0 0, Value.ref 139] }
noncomputable def h134v18 (P : Params) : Obj := { cls := Value.type "tuple", data := Data.seq #[] }
noncomputable def h135v18 (P : Params) : Obj := { cls := Value.none, data := Data.fields #[] }
noncomputable def h136v18 (P : Params) : Obj := { cls := Value.type "tuple", data := Data.seq #[] }
noncomputable def h137v18 (P : Params) : Obj := { cls := Value.type "tuple", data := Data.seq #[] }
noncomputable def h138v18 (P : Params) : Obj := tmpl ar16 bd16 sc16 "_law_several"
noncomputable def h139v18 (P : Params) : Obj := { cls := Value.type "code", data := Data.fields #[Value.str (Str.ofString "_law_several") 2550, Value.str (Str.ofString "_law_several") 2551, Value.str (Str.ofString "/claim/cut.py") 2552, Value.int 117 0, Value.int 0 0, Value.int 0 0, Value.int 0 0, Value.int 3 0, Value.ref 134, Value.bool true, Value.int 276 0, Value.ref 135, Value.none, Value.ref 136, Value.ref 137, Value.ref 138, Value.int 2553 0, Value.int 117 0, Value.str (Str.ofString "/claim/cut.py") 2554] }
noncomputable def h140v18 (P : Params) : Obj := fobj ar16 bd16 sc16 "_law_several" "law_rx0107_01" 2548 139
noncomputable def h3v19 (P : Params) : Obj := { cls := Value.type "dict", data := Data.dict #[{ hash := PyData.keyHash P (Str.ofString "__name__"), key := Value.str (Str.ofString "__name__") 165, val := Value.str (Str.ofString "law_rx0107_01") 2548 }, { hash := PyData.keyHash P (Str.ofString "__doc__"), key := Value.str (Str.ofString "__doc__") 166, val := Value.none }, { hash := PyData.keyHash P (Str.ofString "__package__"), key := Value.str (Str.ofString "__package__") 167, val := Value.none }, { hash := PyData.keyHash P (Str.ofString "__loader__"), key := Value.str (Str.ofString "__loader__") 168, val := Value.builtin "__main__.__loader__#opaque" }, { hash := PyData.keyHash P (Str.ofString "__spec__"), key := Value.str (Str.ofString "__spec__") 169, val := Value.none }, { hash := PyData.keyHash P (Str.ofString "__annotations__"), key := Value.str (Str.ofString "__annotations__") 170, val := Value.ref 6 }, { hash := PyData.keyHash P (Str.ofString "__builtins__"), key := Value.str (Str.ofString "__builtins__") 171, val := Value.ref 4 }, { hash := PyData.keyHash P (Str.ofString "__file__"), key := Value.str (Str.ofString "__file__") 173, val := Value.str (Str.ofString "/claim/cut.py") 172 }, { hash := PyData.keyHash P (Str.ofString "__cached__"), key := Value.str (Str.ofString "__cached__") 174, val := Value.none }, { hash := PyData.keyHash P (Str.ofString "_sre"), key := Value.str (Str.ofString "_sre") 275, val := Value.ref 12 }, { hash := PyData.keyHash P (Str.ofString "_twin_re_1"), key := Value.str (Str.ofString "_twin_re_1") 321, val := Value.ref 36 }, { hash := PyData.keyHash P (Str.ofString "translate"), key := Value.str (Str.ofString "translate") 330, val := Value.ref 43 }, { hash := PyData.keyHash P (Str.ofString "_special_chars_map"), key := Value.str (Str.ofString "_special_chars_map") 478, val := Value.ref 45 }, { hash := PyData.keyHash P (Str.ofString "escape"), key := Value.str (Str.ofString "escape") 485, val := Value.ref 55 }, { hash := PyData.keyHash P (Str.ofString "_translate"), key := Value.str (Str.ofString "_translate") 506, val := Value.ref 62 }, { hash := PyData.keyHash P (Str.ofString "_join_translated_parts"), key := Value.str (Str.ofString "_join_translated_parts") 519, val := Value.ref 69 }, { hash := PyData.keyHash P (Str.ofString "b1_set"), key := Value.str (Str.ofString "b1_set") 581, val := Value.ref 77 }, { hash := PyData.keyHash P (Str.ofString "in_table_b1"), key := Value.str (Str.ofString "in_table_b1") 588, val := Value.ref 87 }, { hash := PyData.keyHash P (Str.ofString "b3_exceptions"), key := Value.str (Str.ofString "b3_exceptions") 2539, val := Value.ref 88 }, { hash := PyData.keyHash P (Str.ofString "map_table_b3"), key := Value.str (Str.ofString "map_table_b3") 2547, val := Value.ref 133 }, { hash := PyData.keyHash P (Str.ofString "_law_several"), key := Value.str (Str.ofString "_law_several") 2555, val := Value.ref 140 }, { hash := PyData.keyHash P (Str.ofString "_law_nothing"), key := Value.str (Str.ofString "_law_nothing") 2561, val := Value.ref 147 }] 22 }
noncomputable def h29v19 (P : Params) : Obj := { cls := Value.none, data := Data.fields #[Value.int 4 0, Value.int 0 0, Value.ref 42, Value.int 10 0, Value.int 0 0, Value.ref 54, Value.int 17 0, Value.int 0 0, Value.ref 61, Value.int 79 0, Value.int 0 0, Value.ref 68, Value.int 108 0, Value.int 0 0, Value.ref 86, Value.int 111 0, Value.int 0 0, Value.ref 132, Value.int 117 0, Value.int 0 0, Value.ref 139, Value.int 119 0, Value.int 0 0, Value.ref 146] }
noncomputable def h141v19 (P : Params) : Obj := { cls := Value.type "tuple", data := Data.seq #[] }
noncomputable def h142v19 (P : Params) : Obj := { cls := Value.none, data := Data.fields #[] }
noncomputable def h143v19 (P : Params) : Obj := { cls := Value.type "tuple", data := Data.seq #[] }
noncomputable def h144v19 (P : Params) : Obj := { cls := Value.type "tuple", data := Data.seq #[] }
noncomputable def h145v19 (P : Params) : Obj := tmpl ar17 bd17 sc17 "_law_nothing"
noncomputable def h146v19 (P : Params) : Obj := { cls := Value.type "code", data := Data.fields #[Value.str (Str.ofString "_law_nothing") 2556, Value.str (Str.ofString "_law_nothing") 2557, Value.str (Str.ofString "/claim/cut.py") 2558, Value.int 119 0, Value.int 0 0, Value.int 0 0, Value.int 0 0, Value.int 3 0, Value.ref 141, Value.bool true, Value.int 276 0, Value.ref 142, Value.none, Value.ref 143, Value.ref 144, Value.ref 145, Value.int 2559 0, Value.int 119 0, Value.str (Str.ofString "/claim/cut.py") 2560] }
noncomputable def h147v19 (P : Params) : Obj := fobj ar17 bd17 sc17 "_law_nothing" "law_rx0107_01" 2548 146
noncomputable def h3v20 (P : Params) : Obj := { cls := Value.type "dict", data := Data.dict #[{ hash := PyData.keyHash P (Str.ofString "__name__"), key := Value.str (Str.ofString "__name__") 165, val := Value.str (Str.ofString "law_rx0107_01") 2548 }, { hash := PyData.keyHash P (Str.ofString "__doc__"), key := Value.str (Str.ofString "__doc__") 166, val := Value.none }, { hash := PyData.keyHash P (Str.ofString "__package__"), key := Value.str (Str.ofString "__package__") 167, val := Value.none }, { hash := PyData.keyHash P (Str.ofString "__loader__"), key := Value.str (Str.ofString "__loader__") 168, val := Value.builtin "__main__.__loader__#opaque" }, { hash := PyData.keyHash P (Str.ofString "__spec__"), key := Value.str (Str.ofString "__spec__") 169, val := Value.none }, { hash := PyData.keyHash P (Str.ofString "__annotations__"), key := Value.str (Str.ofString "__annotations__") 170, val := Value.ref 6 }, { hash := PyData.keyHash P (Str.ofString "__builtins__"), key := Value.str (Str.ofString "__builtins__") 171, val := Value.ref 4 }, { hash := PyData.keyHash P (Str.ofString "__file__"), key := Value.str (Str.ofString "__file__") 173, val := Value.str (Str.ofString "/claim/cut.py") 172 }, { hash := PyData.keyHash P (Str.ofString "__cached__"), key := Value.str (Str.ofString "__cached__") 174, val := Value.none }, { hash := PyData.keyHash P (Str.ofString "_sre"), key := Value.str (Str.ofString "_sre") 275, val := Value.ref 12 }, { hash := PyData.keyHash P (Str.ofString "_twin_re_1"), key := Value.str (Str.ofString "_twin_re_1") 321, val := Value.ref 36 }, { hash := PyData.keyHash P (Str.ofString "translate"), key := Value.str (Str.ofString "translate") 330, val := Value.ref 43 }, { hash := PyData.keyHash P (Str.ofString "_special_chars_map"), key := Value.str (Str.ofString "_special_chars_map") 478, val := Value.ref 45 }, { hash := PyData.keyHash P (Str.ofString "escape"), key := Value.str (Str.ofString "escape") 485, val := Value.ref 55 }, { hash := PyData.keyHash P (Str.ofString "_translate"), key := Value.str (Str.ofString "_translate") 506, val := Value.ref 62 }, { hash := PyData.keyHash P (Str.ofString "_join_translated_parts"), key := Value.str (Str.ofString "_join_translated_parts") 519, val := Value.ref 69 }, { hash := PyData.keyHash P (Str.ofString "b1_set"), key := Value.str (Str.ofString "b1_set") 581, val := Value.ref 77 }, { hash := PyData.keyHash P (Str.ofString "in_table_b1"), key := Value.str (Str.ofString "in_table_b1") 588, val := Value.ref 87 }, { hash := PyData.keyHash P (Str.ofString "b3_exceptions"), key := Value.str (Str.ofString "b3_exceptions") 2539, val := Value.ref 88 }, { hash := PyData.keyHash P (Str.ofString "map_table_b3"), key := Value.str (Str.ofString "map_table_b3") 2547, val := Value.ref 133 }, { hash := PyData.keyHash P (Str.ofString "_law_several"), key := Value.str (Str.ofString "_law_several") 2555, val := Value.ref 140 }, { hash := PyData.keyHash P (Str.ofString "_law_nothing"), key := Value.str (Str.ofString "_law_nothing") 2561, val := Value.ref 147 }, { hash := PyData.keyHash P (Str.ofString "_law_piece"), key := Value.str (Str.ofString "_law_piece") 2576, val := Value.ref 154 }] 23 }
noncomputable def h29v20 (P : Params) : Obj := { cls := Value.none, data := Data.fields #[Value.int 4 0, Value.int 0 0, Value.ref 42, Value.int 10 0, Value.int 0 0, Value.ref 54, Value.int 17 0, Value.int 0 0, Value.ref 61, Value.int 79 0, Value.int 0 0, Value.ref 68, Value.int 108 0, Value.int 0 0, Value.ref 86, Value.int 111 0, Value.int 0 0, Value.ref 132, Value.int 117 0, Value.int 0 0, Value.ref 139, Value.int 119 0, Value.int 0 0, Value.ref 146, Value.int 121 0, Value.int 0 0, Value.ref 153] }
noncomputable def h148v20 (P : Params) : Obj := { cls := Value.type "tuple", data := Data.seq #[] }
noncomputable def h149v20 (P : Params) : Obj := { cls := Value.none, data := Data.fields #[] }
noncomputable def h150v20 (P : Params) : Obj := { cls := Value.type "tuple", data := Data.seq #[Value.str (Str.ofString "cell") 2565, Value.str (Str.ofString "kind") 2566, Value.str (Str.ofString "rest") 2567, Value.str (Str.ofString "small") 2568, Value.str (Str.ofString "great") 2569, Value.str (Str.ofString "text") 2570, Value.str (Str.ofString "first") 2571, Value.str (Str.ofString "code") 2572, Value.str (Str.ofString "place") 2573] }
noncomputable def h151v20 (P : Params) : Obj := { cls := Value.type "tuple", data := Data.seq #[] }
noncomputable def h152v20 (P : Params) : Obj := tmpl ar18 bd18 sc18 "_law_piece"
noncomputable def h153v20 (P : Params) : Obj := { cls := Value.type "code", data := Data.fields #[Value.str (Str.ofString "_law_piece") 2562, Value.str (Str.ofString "_law_piece") 2563, Value.str (Str.ofString "/claim/cut.py") 2564, Value.int 121 0, Value.int 1 0, Value.int 0 0, Value.int 0 0, Value.int 3 0, Value.ref 148, Value.bool true, Value.int 276 0, Value.ref 149, Value.none, Value.ref 150, Value.ref 151, Value.ref 152, Value.int 2574 0, Value.int 121 0, Value.str (Str.ofString "/claim/cut.py") 2575] }
noncomputable def h154v20 (P : Params) : Obj := fobj ar18 bd18 sc18 "_law_piece" "law_rx0107_01" 2548 153
noncomputable def h3v21 (P : Params) : Obj := { cls := Value.type "dict", data := Data.dict #[{ hash := PyData.keyHash P (Str.ofString "__name__"), key := Value.str (Str.ofString "__name__") 165, val := Value.str (Str.ofString "law_rx0107_01") 2548 }, { hash := PyData.keyHash P (Str.ofString "__doc__"), key := Value.str (Str.ofString "__doc__") 166, val := Value.none }, { hash := PyData.keyHash P (Str.ofString "__package__"), key := Value.str (Str.ofString "__package__") 167, val := Value.none }, { hash := PyData.keyHash P (Str.ofString "__loader__"), key := Value.str (Str.ofString "__loader__") 168, val := Value.builtin "__main__.__loader__#opaque" }, { hash := PyData.keyHash P (Str.ofString "__spec__"), key := Value.str (Str.ofString "__spec__") 169, val := Value.none }, { hash := PyData.keyHash P (Str.ofString "__annotations__"), key := Value.str (Str.ofString "__annotations__") 170, val := Value.ref 6 }, { hash := PyData.keyHash P (Str.ofString "__builtins__"), key := Value.str (Str.ofString "__builtins__") 171, val := Value.ref 4 }, { hash := PyData.keyHash P (Str.ofString "__file__"), key := Value.str (Str.ofString "__file__") 173, val := Value.str (Str.ofString "/claim/cut.py") 172 }, { hash := PyData.keyHash P (Str.ofString "__cached__"), key := Value.str (Str.ofString "__cached__") 174, val := Value.none }, { hash := PyData.keyHash P (Str.ofString "_sre"), key := Value.str (Str.ofString "_sre") 275, val := Value.ref 12 }, { hash := PyData.keyHash P (Str.ofString "_twin_re_1"), key := Value.str (Str.ofString "_twin_re_1") 321, val := Value.ref 36 }, { hash := PyData.keyHash P (Str.ofString "translate"), key := Value.str (Str.ofString "translate") 330, val := Value.ref 43 }, { hash := PyData.keyHash P (Str.ofString "_special_chars_map"), key := Value.str (Str.ofString "_special_chars_map") 478, val := Value.ref 45 }, { hash := PyData.keyHash P (Str.ofString "escape"), key := Value.str (Str.ofString "escape") 485, val := Value.ref 55 }, { hash := PyData.keyHash P (Str.ofString "_translate"), key := Value.str (Str.ofString "_translate") 506, val := Value.ref 62 }, { hash := PyData.keyHash P (Str.ofString "_join_translated_parts"), key := Value.str (Str.ofString "_join_translated_parts") 519, val := Value.ref 69 }, { hash := PyData.keyHash P (Str.ofString "b1_set"), key := Value.str (Str.ofString "b1_set") 581, val := Value.ref 77 }, { hash := PyData.keyHash P (Str.ofString "in_table_b1"), key := Value.str (Str.ofString "in_table_b1") 588, val := Value.ref 87 }, { hash := PyData.keyHash P (Str.ofString "b3_exceptions"), key := Value.str (Str.ofString "b3_exceptions") 2539, val := Value.ref 88 }, { hash := PyData.keyHash P (Str.ofString "map_table_b3"), key := Value.str (Str.ofString "map_table_b3") 2547, val := Value.ref 133 }, { hash := PyData.keyHash P (Str.ofString "_law_several"), key := Value.str (Str.ofString "_law_several") 2555, val := Value.ref 140 }, { hash := PyData.keyHash P (Str.ofString "_law_nothing"), key := Value.str (Str.ofString "_law_nothing") 2561, val := Value.ref 147 }, { hash := PyData.keyHash P (Str.ofString "_law_piece"), key := Value.str (Str.ofString "_law_piece") 2576, val := Value.ref 154 }, { hash := PyData.keyHash P (Str.ofString "_law_prepared"), key := Value.str (Str.ofString "_law_prepared") 2582, val := Value.ref 159 }] 24 }
noncomputable def h29v21 (P : Params) : Obj := { cls := Value.none, data := Data.fields #[Value.int 4 0, Value.int 0 0, Value.ref 42, Value.int 10 0, Value.int 0 0, Value.ref 54, Value.int 17 0, Value.int 0 0, Value.ref 61, Value.int 79 0, Value.int 0 0, Value.ref 68, Value.int 108 0, Value.int 0 0, Value.ref 86, Value.int 111 0, Value.int 0 0, Value.ref 132, Value.int 117 0, Value.int 0 0, Value.ref 139, Value.int 119 0, Value.int 0 0, Value.ref 146, Value.int 121 0, Value.int 0 0, Value.ref 153, Value.int 159 0, Value.int 0 0, Value.ref 158] }
noncomputable def h155v21 (P : Params) : Obj := { cls := Value.type "tuple", data := Data.seq #[] }
noncomputable def h156v21 (P : Params) : Obj := { cls := Value.none, data := Data.fields #[] }
noncomputable def h157v21 (P : Params) : Obj := tmpl ar19 bd19 sc19 "_law_prepared"
noncomputable def h158v21 (P : Params) : Obj := { cls := Value.type "code", data := Data.fields #[Value.str (Str.ofString "_law_prepared") 2577, Value.str (Str.ofString "_law_prepared") 2578, Value.str (Str.ofString "/claim/cut.py") 2579, Value.int 159 0, Value.int 1 0, Value.int 0 0, Value.int 0 0, Value.int 3 0, Value.ref 155, Value.bool true, Value.int 276 0, Value.ref 156, Value.none, Value.none, Value.none, Value.ref 157, Value.int 2580 0, Value.int 159 0, Value.str (Str.ofString "/claim/cut.py") 2581] }
noncomputable def h159v21 (P : Params) : Obj := fobj ar19 bd19 sc19 "_law_prepared" "law_rx0107_01" 2548 158
noncomputable def h3v22 (P : Params) : Obj := { cls := Value.type "dict", data := Data.dict #[{ hash := PyData.keyHash P (Str.ofString "__name__"), key := Value.str (Str.ofString "__name__") 165, val := Value.str (Str.ofString "law_rx0107_01") 2548 }, { hash := PyData.keyHash P (Str.ofString "__doc__"), key := Value.str (Str.ofString "__doc__") 166, val := Value.none }, { hash := PyData.keyHash P (Str.ofString "__package__"), key := Value.str (Str.ofString "__package__") 167, val := Value.none }, { hash := PyData.keyHash P (Str.ofString "__loader__"), key := Value.str (Str.ofString "__loader__") 168, val := Value.builtin "__main__.__loader__#opaque" }, { hash := PyData.keyHash P (Str.ofString "__spec__"), key := Value.str (Str.ofString "__spec__") 169, val := Value.none }, { hash := PyData.keyHash P (Str.ofString "__annotations__"), key := Value.str (Str.ofString "__annotations__") 170, val := Value.ref 6 }, { hash := PyData.keyHash P (Str.ofString "__builtins__"), key := Value.str (Str.ofString "__builtins__") 171, val := Value.ref 4 }, { hash := PyData.keyHash P (Str.ofString "__file__"), key := Value.str (Str.ofString "__file__") 173, val := Value.str (Str.ofString "/claim/cut.py") 172 }, { hash := PyData.keyHash P (Str.ofString "__cached__"), key := Value.str (Str.ofString "__cached__") 174, val := Value.none }, { hash := PyData.keyHash P (Str.ofString "_sre"), key := Value.str (Str.ofString "_sre") 275, val := Value.ref 12 }, { hash := PyData.keyHash P (Str.ofString "_twin_re_1"), key := Value.str (Str.ofString "_twin_re_1") 321, val := Value.ref 36 }, { hash := PyData.keyHash P (Str.ofString "translate"), key := Value.str (Str.ofString "translate") 330, val := Value.ref 43 }, { hash := PyData.keyHash P (Str.ofString "_special_chars_map"), key := Value.str (Str.ofString "_special_chars_map") 478, val := Value.ref 45 }, { hash := PyData.keyHash P (Str.ofString "escape"), key := Value.str (Str.ofString "escape") 485, val := Value.ref 55 }, { hash := PyData.keyHash P (Str.ofString "_translate"), key := Value.str (Str.ofString "_translate") 506, val := Value.ref 62 }, { hash := PyData.keyHash P (Str.ofString "_join_translated_parts"), key := Value.str (Str.ofString "_join_translated_parts") 519, val := Value.ref 69 }, { hash := PyData.keyHash P (Str.ofString "b1_set"), key := Value.str (Str.ofString "b1_set") 581, val := Value.ref 77 }, { hash := PyData.keyHash P (Str.ofString "in_table_b1"), key := Value.str (Str.ofString "in_table_b1") 588, val := Value.ref 87 }, { hash := PyData.keyHash P (Str.ofString "b3_exceptions"), key := Value.str (Str.ofString "b3_exceptions") 2539, val := Value.ref 88 }, { hash := PyData.keyHash P (Str.ofString "map_table_b3"), key := Value.str (Str.ofString "map_table_b3") 2547, val := Value.ref 133 }, { hash := PyData.keyHash P (Str.ofString "_law_several"), key := Value.str (Str.ofString "_law_several") 2555, val := Value.ref 140 }, { hash := PyData.keyHash P (Str.ofString "_law_nothing"), key := Value.str (Str.ofString "_law_nothing") 2561, val := Value.ref 147 }, { hash := PyData.keyHash P (Str.ofString "_law_piece"), key := Value.str (Str.ofString "_law_piece") 2576, val := Value.ref 154 }, { hash := PyData.keyHash P (Str.ofString "_law_prepared"), key := Value.str (Str.ofString "_law_prepared") 2582, val := Value.ref 159 }, { hash := PyData.keyHash P (Str.ofString "_law_row"), key := Value.str (Str.ofString "_law_row") 2593, val := Value.ref 166 }] 25 }
noncomputable def h29v22 (P : Params) : Obj := { cls := Value.none, data := Data.fields #[Value.int 4 0, Value.int 0 0, Value.ref 42, Value.int 10 0, Value.int 0 0, Value.ref 54, Value.int 17 0, Value.int 0 0, Value.ref 61, Value.int 79 0, Value.int 0 0, Value.ref 68, Value.int 108 0, Value.int 0 0, Value.ref 86, Value.int 111 0, Value.int 0 0, Value.ref 132, Value.int 117 0, Value.int 0 0, Value.ref 139, Value.int 119 0, Value.int 0 0, Value.ref 146, Value.int 121 0, Value.int 0 0, Value.ref 153, Value.int 159 0, Value.int 0 0, Value.ref 158, Value.int 161 0, Value.int 0 0, Value.ref 165] }
noncomputable def h160v22 (P : Params) : Obj := { cls := Value.type "tuple", data := Data.seq #[] }
noncomputable def h161v22 (P : Params) : Obj := { cls := Value.none, data := Data.fields #[] }
noncomputable def h162v22 (P : Params) : Obj := { cls := Value.type "tuple", data := Data.seq #[Value.str (Str.ofString "parts") 2586, Value.str (Str.ofString "rare") 2587, Value.str (Str.ofString "row") 2588, Value.str (Str.ofString "part") 2589, Value.str (Str.ofString "text") 2590] }
noncomputable def h163v22 (P : Params) : Obj := { cls := Value.type "tuple", data := Data.seq #[] }
noncomputable def h164v22 (P : Params) : Obj := tmpl ar20 bd20 sc20 "_law_row"
noncomputable def h165v22 (P : Params) : Obj := { cls := Value.type "code", data := Data.fields #[Value.str (Str.ofString "_law_row") 2583, Value.str (Str.ofString "_law_row") 2584, Value.str (Str.ofString "/claim/cut.py") 2585, Value.int 161 0, Value.int 1 0, Value.int 0 0, Value.int 0 0, Value.int 3 0, Value.ref 160, Value.bool true, Value.int 276 0, Value.ref 161, Value.none, Value.ref 162, Value.ref 163, Value.ref 164, Value.int 2591 0, Value.int 161 0, Value.str (Str.ofString "/claim/cut.py") 2592] }
noncomputable def h166v22 (P : Params) : Obj := fobj ar20 bd20 sc20 "_law_row" "law_rx0107_01" 2548 165
noncomputable def h3v23 (P : Params) : Obj := { cls := Value.type "dict", data := Data.dict #[{ hash := PyData.keyHash P (Str.ofString "__name__"), key := Value.str (Str.ofString "__name__") 165, val := Value.str (Str.ofString "law_rx0107_01") 2548 }, { hash := PyData.keyHash P (Str.ofString "__doc__"), key := Value.str (Str.ofString "__doc__") 166, val := Value.none }, { hash := PyData.keyHash P (Str.ofString "__package__"), key := Value.str (Str.ofString "__package__") 167, val := Value.none }, { hash := PyData.keyHash P (Str.ofString "__loader__"), key := Value.str (Str.ofString "__loader__") 168, val := Value.builtin "__main__.__loader__#opaque" }, { hash := PyData.keyHash P (Str.ofString "__spec__"), key := Value.str (Str.ofString "__spec__") 169, val := Value.none }, { hash := PyData.keyHash P (Str.ofString "__annotations__"), key := Value.str (Str.ofString "__annotations__") 170, val := Value.ref 6 }, { hash := PyData.keyHash P (Str.ofString "__builtins__"), key := Value.str (Str.ofString "__builtins__") 171, val := Value.ref 4 }, { hash := PyData.keyHash P (Str.ofString "__file__"), key := Value.str (Str.ofString "__file__") 173, val := Value.str (Str.ofString "/claim/cut.py") 172 }, { hash := PyData.keyHash P (Str.ofString "__cached__"), key := Value.str (Str.ofString "__cached__") 174, val := Value.none }, { hash := PyData.keyHash P (Str.ofString "_sre"), key := Value.str (Str.ofString "_sre") 275, val := Value.ref 12 }, { hash := PyData.keyHash P (Str.ofString "_twin_re_1"), key := Value.str (Str.ofString "_twin_re_1") 321, val := Value.ref 36 }, { hash := PyData.keyHash P (Str.ofString "translate"), key := Value.str (Str.ofString "translate") 330, val := Value.ref 43 }, { hash := PyData.keyHash P (Str.ofString "_special_chars_map"), key := Value.str (Str.ofString "_special_chars_map") 478, val := Value.ref 45 }, { hash := PyData.keyHash P (Str.ofString "escape"), key := Value.str (Str.ofString "escape") 485, val := Value.ref 55 }, { hash := PyData.keyHash P (Str.ofString "_translate"), key := Value.str (Str.ofString "_translate") 506, val := Value.ref 62 }, { hash := PyData.keyHash P (Str.ofString "_join_translated_parts"), key := Value.str (Str.ofString "_join_translated_parts") 519, val := Value.ref 69 }, { hash := PyData.keyHash P (Str.ofString "b1_set"), key := Value.str (Str.ofString "b1_set") 581, val := Value.ref 77 }, { hash := PyData.keyHash P (Str.ofString "in_table_b1"), key := Value.str (Str.ofString "in_table_b1") 588, val := Value.ref 87 }, { hash := PyData.keyHash P (Str.ofString "b3_exceptions"), key := Value.str (Str.ofString "b3_exceptions") 2539, val := Value.ref 88 }, { hash := PyData.keyHash P (Str.ofString "map_table_b3"), key := Value.str (Str.ofString "map_table_b3") 2547, val := Value.ref 133 }, { hash := PyData.keyHash P (Str.ofString "_law_several"), key := Value.str (Str.ofString "_law_several") 2555, val := Value.ref 140 }, { hash := PyData.keyHash P (Str.ofString "_law_nothing"), key := Value.str (Str.ofString "_law_nothing") 2561, val := Value.ref 147 }, { hash := PyData.keyHash P (Str.ofString "_law_piece"), key := Value.str (Str.ofString "_law_piece") 2576, val := Value.ref 154 }, { hash := PyData.keyHash P (Str.ofString "_law_prepared"), key := Value.str (Str.ofString "_law_prepared") 2582, val := Value.ref 159 }, { hash := PyData.keyHash P (Str.ofString "_law_row"), key := Value.str (Str.ofString "_law_row") 2593, val := Value.ref 166 }, { hash := PyData.keyHash P (Str.ofString "_law_runs"), key := Value.str (Str.ofString "_law_runs") 2599, val := Value.ref 171 }] 26 }
noncomputable def h29v23 (P : Params) : Obj := { cls := Value.none, data := Data.fields #[Value.int 4 0, Value.int 0 0, Value.ref 42, Value.int 10 0, Value.int 0 0, Value.ref 54, Value.int 17 0, Value.int 0 0, Value.ref 61, Value.int 79 0, Value.int 0 0, Value.ref 68, Value.int 108 0, Value.int 0 0, Value.ref 86, Value.int 111 0, Value.int 0 0, Value.ref 132, Value.int 117 0, Value.int 0 0, Value.ref 139, Value.int 119 0, Value.int 0 0, Value.ref 146, Value.int 121 0, Value.int 0 0, Value.ref 153, Value.int 159 0, Value.int 0 0, Value.ref 158, Value.int 161 0, Value.int 0 0, Value.ref 165, Value.int 173 0, Value.int 0 0, Value.ref 170] }
noncomputable def h167v23 (P : Params) : Obj := { cls := Value.type "tuple", data := Data.seq #[] }
noncomputable def h168v23 (P : Params) : Obj := { cls := Value.none, data := Data.fields #[] }
noncomputable def h169v23 (P : Params) : Obj := tmpl ar21 bd21 sc21 "_law_runs"
noncomputable def h170v23 (P : Params) : Obj := { cls := Value.type "code", data := Data.fields #[Value.str (Str.ofString "_law_runs") 2594, Value.str (Str.ofString "_law_runs") 2595, Value.str (Str.ofString "/claim/cut.py") 2596, Value.int 173 0, Value.int 1 0, Value.int 0 0, Value.int 0 0, Value.int 3 0, Value.ref 167, Value.bool true, Value.int 276 0, Value.ref 168, Value.none, Value.none, Value.none, Value.ref 169, Value.int 2597 0, Value.int 173 0, Value.str (Str.ofString "/claim/cut.py") 2598] }
noncomputable def h171v23 (P : Params) : Obj := fobj ar21 bd21 sc21 "_law_runs" "law_rx0107_01" 2548 170
noncomputable def h3v24 (P : Params) : Obj := { cls := Value.type "dict", data := Data.dict #[{ hash := PyData.keyHash P (Str.ofString "__name__"), key := Value.str (Str.ofString "__name__") 165, val := Value.str (Str.ofString "law_rx0107_01") 2548 }, { hash := PyData.keyHash P (Str.ofString "__doc__"), key := Value.str (Str.ofString "__doc__") 166, val := Value.none }, { hash := PyData.keyHash P (Str.ofString "__package__"), key := Value.str (Str.ofString "__package__") 167, val := Value.none }, { hash := PyData.keyHash P (Str.ofString "__loader__"), key := Value.str (Str.ofString "__loader__") 168, val := Value.builtin "__main__.__loader__#opaque" }, { hash := PyData.keyHash P (Str.ofString "__spec__"), key := Value.str (Str.ofString "__spec__") 169, val := Value.none }, { hash := PyData.keyHash P (Str.ofString "__annotations__"), key := Value.str (Str.ofString "__annotations__") 170, val := Value.ref 6 }, { hash := PyData.keyHash P (Str.ofString "__builtins__"), key := Value.str (Str.ofString "__builtins__") 171, val := Value.ref 4 }, { hash := PyData.keyHash P (Str.ofString "__file__"), key := Value.str (Str.ofString "__file__") 173, val := Value.str (Str.ofString "/claim/cut.py") 172 }, { hash := PyData.keyHash P (Str.ofString "__cached__"), key := Value.str (Str.ofString "__cached__") 174, val := Value.none }, { hash := PyData.keyHash P (Str.ofString "_sre"), key := Value.str (Str.ofString "_sre") 275, val := Value.ref 12 }, { hash := PyData.keyHash P (Str.ofString "_twin_re_1"), key := Value.str (Str.ofString "_twin_re_1") 321, val := Value.ref 36 }, { hash := PyData.keyHash P (Str.ofString "translate"), key := Value.str (Str.ofString "translate") 330, val := Value.ref 43 }, { hash := PyData.keyHash P (Str.ofString "_special_chars_map"), key := Value.str (Str.ofString "_special_chars_map") 478, val := Value.ref 45 }, { hash := PyData.keyHash P (Str.ofString "escape"), key := Value.str (Str.ofString "escape") 485, val := Value.ref 55 }, { hash := PyData.keyHash P (Str.ofString "_translate"), key := Value.str (Str.ofString "_translate") 506, val := Value.ref 62 }, { hash := PyData.keyHash P (Str.ofString "_join_translated_parts"), key := Value.str (Str.ofString "_join_translated_parts") 519, val := Value.ref 69 }, { hash := PyData.keyHash P (Str.ofString "b1_set"), key := Value.str (Str.ofString "b1_set") 581, val := Value.ref 77 }, { hash := PyData.keyHash P (Str.ofString "in_table_b1"), key := Value.str (Str.ofString "in_table_b1") 588, val := Value.ref 87 }, { hash := PyData.keyHash P (Str.ofString "b3_exceptions"), key := Value.str (Str.ofString "b3_exceptions") 2539, val := Value.ref 88 }, { hash := PyData.keyHash P (Str.ofString "map_table_b3"), key := Value.str (Str.ofString "map_table_b3") 2547, val := Value.ref 133 }, { hash := PyData.keyHash P (Str.ofString "_law_several"), key := Value.str (Str.ofString "_law_several") 2555, val := Value.ref 140 }, { hash := PyData.keyHash P (Str.ofString "_law_nothing"), key := Value.str (Str.ofString "_law_nothing") 2561, val := Value.ref 147 }, { hash := PyData.keyHash P (Str.ofString "_law_piece"), key := Value.str (Str.ofString "_law_piece") 2576, val := Value.ref 154 }, { hash := PyData.keyHash P (Str.ofString "_law_prepared"), key := Value.str (Str.ofString "_law_prepared") 2582, val := Value.ref 159 }, { hash := PyData.keyHash P (Str.ofString "_law_row"), key := Value.str (Str.ofString "_law_row") 2593, val := Value.ref 166 }, { hash := PyData.keyHash P (Str.ofString "_law_runs"), key := Value.str (Str.ofString "_law_runs") 2599, val := Value.ref 171 }, { hash := PyData.keyHash P (Str.ofString "_law_text"), key := Value.str (Str.ofString "_law_text") 2605, val := Value.ref 176 }] 27 }
noncomputable def h29v24 (P : Params) : Obj := { cls := Value.none, data := Data.fields #[Value.int 4 0, Value.int 0 0, Value.ref 42, Value.int 10 0, Value.int 0 0, Value.ref 54, Value.int 17 0, Value.int 0 0, Value.ref 61, Value.int 79 0, Value.int 0 0, Value.ref 68, Value.int 108 0, Value.int 0 0, Value.ref 86, Value.int 111 0, Value.int 0 0, Value.ref 132, Value.int 117 0, Value.int 0 0, Value.ref 139, Value.int 119 0, Value.int 0 0, Value.ref 146, Value.int 121 0, Value.int 0 0, Value.ref 153, Value.int 159 0, Value.int 0 0, Value.ref 158, Value.int 161 0, Value.int 0 0, Value.ref 165, Value.int 173 0, Value.int 0 0, Value.ref 170, Value.int 200 0, Value.int 0 0, Value.ref 175] }
noncomputable def h172v24 (P : Params) : Obj := { cls := Value.type "tuple", data := Data.seq #[] }
noncomputable def h173v24 (P : Params) : Obj := { cls := Value.none, data := Data.fields #[] }
noncomputable def h174v24 (P : Params) : Obj := tmpl ar22 bd22 sc22 "_law_text"
noncomputable def h175v24 (P : Params) : Obj := { cls := Value.type "code", data := Data.fields #[Value.str (Str.ofString "_law_text") 2600, Value.str (Str.ofString "_law_text") 2601, Value.str (Str.ofString "/claim/cut.py") 2602, Value.int 200 0, Value.int 1 0, Value.int 0 0, Value.int 0 0, Value.int 3 0, Value.ref 172, Value.bool true, Value.int 276 0, Value.ref 173, Value.none, Value.none, Value.none, Value.ref 174, Value.int 2603 0, Value.int 200 0, Value.str (Str.ofString "/claim/cut.py") 2604] }
noncomputable def h176v24 (P : Params) : Obj := fobj ar22 bd22 sc22 "_law_text" "law_rx0107_01" 2548 175
noncomputable def h3v25 (P : Params) : Obj := { cls := Value.type "dict", data := Data.dict #[{ hash := PyData.keyHash P (Str.ofString "__name__"), key := Value.str (Str.ofString "__name__") 165, val := Value.str (Str.ofString "law_rx0107_01") 2548 }, { hash := PyData.keyHash P (Str.ofString "__doc__"), key := Value.str (Str.ofString "__doc__") 166, val := Value.none }, { hash := PyData.keyHash P (Str.ofString "__package__"), key := Value.str (Str.ofString "__package__") 167, val := Value.none }, { hash := PyData.keyHash P (Str.ofString "__loader__"), key := Value.str (Str.ofString "__loader__") 168, val := Value.builtin "__main__.__loader__#opaque" }, { hash := PyData.keyHash P (Str.ofString "__spec__"), key := Value.str (Str.ofString "__spec__") 169, val := Value.none }, { hash := PyData.keyHash P (Str.ofString "__annotations__"), key := Value.str (Str.ofString "__annotations__") 170, val := Value.ref 6 }, { hash := PyData.keyHash P (Str.ofString "__builtins__"), key := Value.str (Str.ofString "__builtins__") 171, val := Value.ref 4 }, { hash := PyData.keyHash P (Str.ofString "__file__"), key := Value.str (Str.ofString "__file__") 173, val := Value.str (Str.ofString "/claim/cut.py") 172 }, { hash := PyData.keyHash P (Str.ofString "__cached__"), key := Value.str (Str.ofString "__cached__") 174, val := Value.none }, { hash := PyData.keyHash P (Str.ofString "_sre"), key := Value.str (Str.ofString "_sre") 275, val := Value.ref 12 }, { hash := PyData.keyHash P (Str.ofString "_twin_re_1"), key := Value.str (Str.ofString "_twin_re_1") 321, val := Value.ref 36 }, { hash := PyData.keyHash P (Str.ofString "translate"), key := Value.str (Str.ofString "translate") 330, val := Value.ref 43 }, { hash := PyData.keyHash P (Str.ofString "_special_chars_map"), key := Value.str (Str.ofString "_special_chars_map") 478, val := Value.ref 45 }, { hash := PyData.keyHash P (Str.ofString "escape"), key := Value.str (Str.ofString "escape") 485, val := Value.ref 55 }, { hash := PyData.keyHash P (Str.ofString "_translate"), key := Value.str (Str.ofString "_translate") 506, val := Value.ref 62 }, { hash := PyData.keyHash P (Str.ofString "_join_translated_parts"), key := Value.str (Str.ofString "_join_translated_parts") 519, val := Value.ref 69 }, { hash := PyData.keyHash P (Str.ofString "b1_set"), key := Value.str (Str.ofString "b1_set") 581, val := Value.ref 77 }, { hash := PyData.keyHash P (Str.ofString "in_table_b1"), key := Value.str (Str.ofString "in_table_b1") 588, val := Value.ref 87 }, { hash := PyData.keyHash P (Str.ofString "b3_exceptions"), key := Value.str (Str.ofString "b3_exceptions") 2539, val := Value.ref 88 }, { hash := PyData.keyHash P (Str.ofString "map_table_b3"), key := Value.str (Str.ofString "map_table_b3") 2547, val := Value.ref 133 }, { hash := PyData.keyHash P (Str.ofString "_law_several"), key := Value.str (Str.ofString "_law_several") 2555, val := Value.ref 140 }, { hash := PyData.keyHash P (Str.ofString "_law_nothing"), key := Value.str (Str.ofString "_law_nothing") 2561, val := Value.ref 147 }, { hash := PyData.keyHash P (Str.ofString "_law_piece"), key := Value.str (Str.ofString "_law_piece") 2576, val := Value.ref 154 }, { hash := PyData.keyHash P (Str.ofString "_law_prepared"), key := Value.str (Str.ofString "_law_prepared") 2582, val := Value.ref 159 }, { hash := PyData.keyHash P (Str.ofString "_law_row"), key := Value.str (Str.ofString "_law_row") 2593, val := Value.ref 166 }, { hash := PyData.keyHash P (Str.ofString "_law_runs"), key := Value.str (Str.ofString "_law_runs") 2599, val := Value.ref 171 }, { hash := PyData.keyHash P (Str.ofString "_law_text"), key := Value.str (Str.ofString "_law_text") 2605, val := Value.ref 176 }, { hash := PyData.keyHash P (Str.ofString "law"), key := Value.str (Str.ofString "law") 2611, val := Value.ref 181 }] 28 }
noncomputable def h29v25 (P : Params) : Obj := { cls := Value.none, data := Data.fields #[Value.int 4 0, Value.int 0 0, Value.ref 42, Value.int 10 0, Value.int 0 0, Value.ref 54, Value.int 17 0, Value.int 0 0, Value.ref 61, Value.int 79 0, Value.int 0 0, Value.ref 68, Value.int 108 0, Value.int 0 0, Value.ref 86, Value.int 111 0, Value.int 0 0, Value.ref 132, Value.int 117 0, Value.int 0 0, Value.ref 139, Value.int 119 0, Value.int 0 0, Value.ref 146, Value.int 121 0, Value.int 0 0, Value.ref 153, Value.int 159 0, Value.int 0 0, Value.ref 158, Value.int 161 0, Value.int 0 0, Value.ref 165, Value.int 173 0, Value.int 0 0, Value.ref 170, Value.int 200 0, Value.int 0 0, Value.ref 175, Value.int 206 0, Value.int 0 0, Value.ref 180] }
noncomputable def h177v25 (P : Params) : Obj := { cls := Value.type "tuple", data := Data.seq #[] }
noncomputable def h178v25 (P : Params) : Obj := { cls := Value.none, data := Data.fields #[] }
noncomputable def h179v25 (P : Params) : Obj := tmpl ar23 bd23 sc23 "law"
noncomputable def h180v25 (P : Params) : Obj := { cls := Value.type "code", data := Data.fields #[Value.str (Str.ofString "law") 2606, Value.str (Str.ofString "law") 2607, Value.str (Str.ofString "/claim/cut.py") 2608, Value.int 206 0, Value.int 1 0, Value.int 0 0, Value.int 0 0, Value.int 3 0, Value.ref 177, Value.bool true, Value.int 276 0, Value.ref 178, Value.none, Value.none, Value.none, Value.ref 179, Value.int 2609 0, Value.int 206 0, Value.str (Str.ofString "/claim/cut.py") 2610] }
noncomputable def h181v25 (P : Params) : Obj := fobj ar23 bd23 sc23 "law" "law_rx0107_01" 2548 180
noncomputable def t0 (P : Params) : BT := (.node (h0v0 P) (.node (h1v0 P) (.node (h3v0 P) (.node (h7v0 P) (.node (h15v0 P) .nil .nil) (.node (h23v0 P) .nil .nil)) (.node (h11v0 P) (.node (h19v0 P) .nil .nil) (.node (h27v0 P) .nil .nil))) (.node (h5v0 P) (.node (h9v0 P) (.node (h17v0 P) .nil .nil) (.node (h25v0 P) .nil .nil)) (.node (h13v0 P) (.node (h21v0 P) .nil .nil) .nil))) (.node (h2v0 P) (.node (h4v0 P) (.node (h8v0 P) (.node (h16v0 P) .nil .nil) (.node (h24v0 P) .nil .nil)) (.node (h12v0 P) (.node (h20v0 P) .nil .nil) .nil)) (.node (h6v0 P) (.node (h10v0 P) (.node (h18v0 P) .nil .nil) (.node (h26v0 P) .nil .nil)) (.node (h14v0 P) (.node (h22v0 P) .nil .nil) .nil))))
noncomputable def h11e (P : Params) : Obj := { cls := Value.type "dict", data := Data.dict #[{ hash := PyData.keyHash P (Str.ofString "__name__"), key := Value.str (Str.ofString "__name__") 247, val := Value.str (Str.ofString "_sre") 246 }, { hash := PyData.keyHash P (Str.ofString "__doc__"), key := Value.str (Str.ofString "__doc__") 248, val := Value.none }, { hash := PyData.keyHash P (Str.ofString "__package__"), key := Value.str (Str.ofString "__package__") 250, val := Value.str (Str.ofString "") 249 }, { hash := PyData.keyHash P (Str.ofString "__loader__"), key := Value.str (Str.ofString "__loader__") 251, val := Value.ref 14 }, { hash := PyData.keyHash P (Str.ofString "__spec__"), key := Value.str (Str.ofString "__spec__") 252, val := Value.ref 26 }, { hash := PyData.keyHash P (Str.ofString "compile"), key := Value.str (Str.ofString "compile") 253, val := Value.builtin "_sre.compile" }, { hash := PyData.keyHash P (Str.ofString "template"), key := Value.str (Str.ofString "template") 254, val := Value.builtin "_sre.template" }, { hash := PyData.keyHash P (Str.ofString "getcodesize"), key := Value.str (Str.ofString "getcodesize") 255, val := Value.builtin "_sre.getcodesize" }, { hash := PyData.keyHash P (Str.ofString "ascii_iscased"), key := Value.str (Str.ofString "ascii_iscased") 256, val := Value.builtin "_sre.ascii_iscased" }, { hash := PyData.keyHash P (Str.ofString "unicode_iscased"), key := Value.str (Str.ofString "unicode_iscased") 257, val := Value.builtin "_sre.unicode_iscased" }, { hash := PyData.keyHash P (Str.ofString "ascii_tolower"), key := Value.str (Str.ofString "ascii_tolower") 258, val := Value.builtin "_sre.ascii_tolower" }, { hash := PyData.keyHash P (Str.ofString "unicode_tolower"), key := Value.str (Str.ofString "unicode_tolower") 259, val := Value.builtin "_sre.unicode_tolower" }, { hash := PyData.keyHash P (Str.ofString "MAGIC"), key := Value.str (Str.ofString "MAGIC") 261, val := Value.int 20230612 260 }, { hash := PyData.keyHash P (Str.ofString "CODESIZE"), key := Value.str (Str.ofString "CODESIZE") 263, val := Value.int 4 262 }, { hash := PyData.keyHash P (Str.ofString "MAXREPEAT"), key := Value.str (Str.ofString "MAXREPEAT") 265, val := Value.int 4294967295 264 }, { hash := PyData.keyHash P (Str.ofString "MAXGROUPS"), key := Value.str (Str.ofString "MAXGROUPS") 267, val := Value.int 1073741823 266 }, { hash := PyData.keyHash P (Str.ofString "copyright"), key := Value.str (Str.ofString "copyright") 269, val := Value.str (Str.ofString " SRE 2.2.2 Copyright (c) 1997-2002 by Secret Labs AB ") 268 }] 17 }
noncomputable def heapE (P : Params) : Heap := ⟨#[h0v0 P, h1v0 P, h2v0 P, h3v0 P, h4v0 P, h5v0 P, h6v0 P, h7v0 P, h8v0 P, h9v0 P, h10v0 P, h11e P, h12v0 P, h13v0 P, h14v0 P, h15v0 P, h16v0 P, h17v0 P, h18v0 P, h19v0 P, h20v0 P, h21v0 P, h22v0 P, h23v0 P, h24v0 P, h25v0 P, h26v0 P, h27v0 P], {}⟩
noncomputable def heap0 (P : Params) : Heap := ⟨#[h0v0 P, h1v0 P, h2v0 P, h3v0 P, h4v0 P, h5v0 P, h6v0 P, h7v0 P, h8v0 P, h9v0 P, h10v0 P, h11v0 P, h12v0 P, h13v0 P, h14v0 P, h15v0 P, h16v0 P, h17v0 P, h18v0 P, h19v0 P, h20v0 P, h21v0 P, h22v0 P, h23v0 P, h24v0 P, h25v0 P, h26v0 P, h27v0 P], {}⟩
noncomputable def t2 (P : Params) : BT := (.node (h0v0 P) (.node (h1v0 P) (.node (h3v0 P) (.node (h7v0 P) (.node (h15v0 P) (.node (h31v1 P) .nil .nil) .nil) (.node (h23v0 P) .nil .nil)) (.node (h11v0 P) (.node (h19v0 P) .nil .nil) (.node (h27v0 P) .nil .nil))) (.node (h5v0 P) (.node (h9v0 P) (.node (h17v0 P) .nil .nil) (.node (h25v0 P) .nil .nil)) (.node (h13v0 P) (.node (h21v0 P) .nil .nil) (.node (h29v1 P) .nil .nil)))) (.node (h2v0 P) (.node (h4v0 P) (.node (h8v0 P) (.node (h16v0 P) .nil .nil) (.node (h24v0 P) .nil .nil)) (.node (h12v0 P) (.node (h20v0 P) .nil .nil) (.node (h28v1 P) .nil .nil))) (.node (h6v0 P) (.node (h10v0 P) (.node (h18v0 P) .nil .nil) (.node (h26v0 P) .nil .nil)) (.node (h14v0 P) (.node (h22v0 P) .nil .nil) (.node (h30v1 P) .nil .nil)))))
noncomputable def t6 (P : Params) : BT := (.node (h0v0 P) (.node (h1v0 P) (.node (h3v6 P) (.node (h7v0 P) (.node (h15v0 P) (.node (h31v1 P) .nil .nil) .nil) (.node (h23v0 P) (.node (h39v5 P) .nil .nil) .nil)) (.node (h11v0 P) (.node (h19v0 P) (.node (h35v4 P) .nil .nil) .nil) (.node (h27v0 P) (.node (h43v5 P) .nil .nil) .nil))) (.node (h5v0 P) (.node (h9v0 P) (.node (h17v0 P) (.node (h33v4 P) .nil .nil) .nil) (.node (h25v0 P) (.node (h41v5 P) .nil .nil) .nil)) (.node (h13v0 P) (.node (h21v0 P) (.node (h37v5 P) .nil .nil) .nil) (.node (h29v5 P) .nil .nil)))) (.node (h2v0 P) (.node (h4v0 P) (.node (h8v0 P) (.node (h16v0 P) (.node (h32v4 P) .nil .nil) .nil) (.node (h24v0 P) (.node (h40v5 P) .nil .nil) .nil)) (.node (h12v0 P) (.node (h20v0 P) (.node (h36v4 P) .nil .nil) .nil) (.node (h28v1 P) .nil .nil))) (.node (h6v0 P) (.node (h10v0 P) (.node (h18v0 P) (.node (h34v4 P) .nil .nil) .nil) (.node (h26v0 P) (.node (h42v5 P) .nil .nil) .nil)) (.node (h14v0 P) (.node (h22v0 P) (.node (h38v5 P) .nil .nil) .nil) (.node (h30v1 P) .nil .nil)))))
noncomputable def t7 (P : Params) : BT := (.node (h0v0 P) (.node (h1v0 P) (.node (h3v7 P) (.node (h7v0 P) (.node (h15v0 P) (.node (h31v1 P) .nil .nil) (.node (h47v7 P) .nil .nil)) (.node (h23v0 P) (.node (h39v5 P) .nil .nil) .nil)) (.node (h11v0 P) (.node (h19v0 P) (.node (h35v4 P) .nil .nil) .nil) (.node (h27v0 P) (.node (h43v5 P) .nil .nil) .nil))) (.node (h5v0 P) (.node (h9v0 P) (.node (h17v0 P) (.node (h33v4 P) .nil .nil) .nil) (.node (h25v0 P) (.node (h41v5 P) .nil .nil) .nil)) (.node (h13v0 P) (.node (h21v0 P) (.node (h37v5 P) .nil .nil) .nil) (.node (h29v5 P) (.node (h45v7 P) .nil .nil) .nil)))) (.node (h2v0 P) (.node (h4v0 P) (.node (h8v0 P) (.node (h16v0 P) (.node (h32v4 P) .nil .nil) (.node (h48v7 P) .nil .nil)) (.node (h24v0 P) (.node (h40v5 P) .nil .nil) .nil)) (.node (h12v0 P) (.node (h20v0 P) (.node (h36v4 P) .nil .nil) .nil) (.node (h28v1 P) (.node (h44v7 P) .nil .nil) .nil))) (.node (h6v0 P) (.node (h10v0 P) (.node (h18v0 P) (.node (h34v4 P) .nil .nil) .nil) (.node (h26v0 P) (.node (h42v5 P) .nil .nil) .nil)) (.node (h14v0 P) (.node (h22v0 P) (.node (h38v5 P) .nil .nil) .nil) (.node (h30v1 P) (.node (h46v7 P) .nil .nil) .nil)))))
noncomputable def t12 (P : Params) : BT := (.node (h0v0 P) (.node (h1v0 P) (.node (h3v12 P) (.node (h7v0 P) (.node (h15v0 P) (.node (h31v1 P) (.node (h63v11 P) .nil .nil) .nil) (.node (h47v7 P) .nil .nil)) (.node (h23v0 P) (.node (h39v5 P) .nil .nil) (.node (h55v8 P) .nil .nil))) (.node (h11v0 P) (.node (h19v0 P) (.node (h35v4 P) (.node (h67v11 P) .nil .nil) .nil) (.node (h51v8 P) .nil .nil)) (.node (h27v0 P) (.node (h43v5 P) .nil .nil) (.node (h59v10 P) .nil .nil)))) (.node (h5v0 P) (.node (h9v0 P) (.node (h17v0 P) (.node (h33v4 P) (.node (h65v11 P) .nil .nil) .nil) (.node (h49v8 P) .nil .nil)) (.node (h25v0 P) (.node (h41v5 P) .nil .nil) (.node (h57v10 P) .nil .nil))) (.node (h13v0 P) (.node (h21v0 P) (.node (h37v5 P) (.node (h69v11 P) .nil .nil) .nil) (.node (h53v8 P) .nil .nil)) (.node (h29v11 P) (.node (h45v7 P) .nil .nil) (.node (h61v10 P) .nil .nil))))) (.node (h2v0 P) (.node (h4v0 P) (.node (h8v0 P) (.node (h16v0 P) (.node (h32v4 P) (.node (h64v11 P) .nil .nil) .nil) (.node (h48v7 P) .nil .nil)) (.node (h24v0 P) (.node (h40v5 P) .nil .nil) (.node (h56v10 P) .nil .nil))) (.node (h12v0 P) (.node (h20v0 P) (.node (h36v4 P) (.node (h68v11 P) .nil .nil) .nil) (.node (h52v8 P) .nil .nil)) (.node (h28v1 P) (.node (h44v7 P) .nil .nil) (.node (h60v10 P) .nil .nil)))) (.node (h6v0 P) (.node (h10v0 P) (.node (h18v0 P) (.node (h34v4 P) (.node (h66v11 P) .nil .nil) .nil) (.node (h50v8 P) .nil .nil)) (.node (h26v0 P) (.node (h42v5 P) .nil .nil) (.node (h58v10 P) .nil .nil))) (.node (h14v0 P) (.node (h22v0 P) (.node (h38v5 P) .nil .nil) (.node (h54v8 P) .nil .nil)) (.node (h30v1 P) (.node (h46v7 P) .nil .nil) (.node (h62v10 P) .nil .nil))))))
noncomputable def t13 (P : Params) : BT := (.node (h0v0 P) (.node (h1v0 P) (.node (h3v13 P) (.node (h7v0 P) (.node (h15v0 P) (.node (h31v1 P) (.node (h63v11 P) .nil .nil) .nil) (.node (h47v7 P) (.node (h79v13 P) .nil .nil) .nil)) (.node (h23v0 P) (.node (h39v5 P) (.node (h71v13 P) .nil .nil) .nil) (.node (h55v8 P) .nil .nil))) (.node (h11v0 P) (.node (h19v0 P) (.node (h35v4 P) (.node (h67v11 P) .nil .nil) .nil) (.node (h51v8 P) .nil .nil)) (.node (h27v0 P) (.node (h43v5 P) (.node (h75v13 P) .nil .nil) .nil) (.node (h59v10 P) .nil .nil)))) (.node (h5v0 P) (.node (h9v0 P) (.node (h17v0 P) (.node (h33v4 P) (.node (h65v11 P) .nil .nil) .nil) (.node (h49v8 P) .nil .nil)) (.node (h25v0 P) (.node (h41v5 P) (.node (h73v13 P) .nil .nil) .nil) (.node (h57v10 P) .nil .nil))) (.node (h13v0 P) (.node (h21v0 P) (.node (h37v5 P) (.node (h69v11 P) .nil .nil) .nil) (.node (h53v8 P) .nil .nil)) (.node (h29v11 P) (.node (h45v7 P) (.node (h77v13 P) .nil .nil) .nil) (.node (h61v10 P) .nil .nil))))) (.node (h2v0 P) (.node (h4v0 P) (.node (h8v0 P) (.node (h16v0 P) (.node (h32v4 P) (.node (h64v11 P) .nil .nil) .nil) (.node (h48v7 P) (.node (h80v13 P) .nil .nil) .nil)) (.node (h24v0 P) (.node (h40v5 P) (.node (h72v13 P) .nil .nil) .nil) (.node (h56v10 P) .nil .nil))) (.node (h12v0 P) (.node (h20v0 P) (.node (h36v4 P) (.node (h68v11 P) .nil .nil) .nil) (.node (h52v8 P) .nil .nil)) (.node (h28v1 P) (.node (h44v7 P) (.node (h76v13 P) .nil .nil) .nil) (.node (h60v10 P) .nil .nil)))) (.node (h6v0 P) (.node (h10v0 P) (.node (h18v0 P) (.node (h34v4 P) (.node (h66v11 P) .nil .nil) .nil) (.node (h50v8 P) .nil .nil)) (.node (h26v0 P) (.node (h42v5 P) (.node (h74v13 P) .nil .nil) .nil) (.node (h58v10 P) .nil .nil))) (.node (h14v0 P) (.node (h22v0 P) (.node (h38v5 P) (.node (h70v13 P) .nil .nil) .nil) (.node (h54v8 P) .nil .nil)) (.node (h30v1 P) (.node (h46v7 P) (.node (h78v13 P) .nil .nil) .nil) (.node (h62v10 P) .nil .nil))))))
noncomputable def t14 (P : Params) : BT := (.node (h0v0 P) (.node (h1v0 P) (.node (h3v14 P) (.node (h7v0 P) (.node (h15v0 P) (.node (h31v1 P) (.node (h63v11 P) .nil .nil) .nil) (.node (h47v7 P) (.node (h79v13 P) .nil .nil) .nil)) (.node (h23v0 P) (.node (h39v5 P) (.node (h71v13 P) .nil .nil) .nil) (.node (h55v8 P) (.node (h87v14 P) .nil .nil) .nil))) (.node (h11v0 P) (.node (h19v0 P) (.node (h35v4 P) (.node (h67v11 P) .nil .nil) .nil) (.node (h51v8 P) (.node (h83v14 P) .nil .nil) .nil)) (.node (h27v0 P) (.node (h43v5 P) (.node (h75v13 P) .nil .nil) .nil) (.node (h59v10 P) .nil .nil)))) (.node (h5v0 P) (.node (h9v0 P) (.node (h17v0 P) (.node (h33v4 P) (.node (h65v11 P) .nil .nil) .nil) (.node (h49v8 P) (.node (h81v14 P) .nil .nil) .nil)) (.node (h25v0 P) (.node (h41v5 P) (.node (h73v13 P) .nil .nil) .nil) (.node (h57v10 P) .nil .nil))) (.node (h13v0 P) (.node (h21v0 P) (.node (h37v5 P) (.node (h69v11 P) .nil .nil) .nil) (.node (h53v8 P) (.node (h85v14 P) .nil .nil) .nil)) (.node (h29v14 P) (.node (h45v7 P) (.node (h77v13 P) .nil .nil) .nil) (.node (h61v10 P) .nil .nil))))) (.node (h2v0 P) (.node (h4v0 P) (.node (h8v0 P) (.node (h16v0 P) (.node (h32v4 P) (.node (h64v11 P) .nil .nil) .nil) (.node (h48v7 P) (.node (h80v13 P) .nil .nil) .nil)) (.node (h24v0 P) (.node (h40v5 P) (.node (h72v13 P) .nil .nil) .nil) (.node (h56v10 P) .nil .nil))) (.node (h12v0 P) (.node (h20v0 P) (.node (h36v4 P) (.node (h68v11 P) .nil .nil) .nil) (.node (h52v8 P) (.node (h84v14 P) .nil .nil) .nil)) (.node (h28v1 P) (.node (h44v7 P) (.node (h76v13 P) .nil .nil) .nil) (.node (h60v10 P) .nil .nil)))) (.node (h6v0 P) (.node (h10v0 P) (.node (h18v0 P) (.node (h34v4 P) (.node (h66v11 P) .nil .nil) .nil) (.node (h50v8 P) (.node (h82v14 P) .nil .nil) .nil)) (.node (h26v0 P) (.node (h42v5 P) (.node (h74v13 P) .nil .nil) .nil) (.node (h58v10 P) .nil .nil))) (.node (h14v0 P) (.node (h22v0 P) (.node (h38v5 P) (.node (h70v13 P) .nil .nil) .nil) (.node (h54v8 P) (.node (h86v14 P) .nil .nil) .nil)) (.node (h30v1 P) (.node (h46v7 P) (.node (h78v13 P) .nil .nil) .nil) (.node (h62v10 P) .nil .nil))))))
noncomputable def t15 (P : Params) : BT := (.node (h0v0 P) (.node (h1v0 P) (.node (h3v15 P) (.node (h7v0 P) (.node (h15v0 P) (.node (h31v1 P) (.node (h63v11 P) .nil .nil) (.node (h95v15 P) .nil .nil)) (.node (h47v7 P) (.node (h79v13 P) .nil .nil) (.node (h111v15 P) .nil .nil))) (.node (h23v0 P) (.node (h39v5 P) (.node (h71v13 P) .nil .nil) (.node (h103v15 P) .nil .nil)) (.node (h55v8 P) (.node (h87v14 P) .nil .nil) (.node (h119v15 P) .nil .nil)))) (.node (h11v0 P) (.node (h19v0 P) (.node (h35v4 P) (.node (h67v11 P) .nil .nil) (.node (h99v15 P) .nil .nil)) (.node (h51v8 P) (.node (h83v14 P) .nil .nil) (.node (h115v15 P) .nil .nil))) (.node (h27v0 P) (.node (h43v5 P) (.node (h75v13 P) .nil .nil) (.node (h107v15 P) .nil .nil)) (.node (h59v10 P) (.node (h91v15 P) .nil .nil) (.node (h123v15 P) .nil .nil))))) (.node (h5v0 P) (.node (h9v0 P) (.node (h17v0 P) (.node (h33v4 P) (.node (h65v11 P) .nil .nil) (.node (h97v15 P) .nil .nil)) (.node (h49v8 P) (.node (h81v14 P) .nil .nil) (.node (h113v15 P) .nil .nil))) (.node (h25v0 P) (.node (h41v5 P) (.node (h73v13 P) .nil .nil) (.node (h105v15 P) .nil .nil)) (.node (h57v10 P) (.node (h89v15 P) .nil .nil) (.node (h121v15 P) .nil .nil)))) (.node (h13v0 P) (.node (h21v0 P) (.node (h37v5 P) (.node (h69v11 P) .nil .nil) (.node (h101v15 P) .nil .nil)) (.node (h53v8 P) (.node (h85v14 P) .nil .nil) (.node (h117v15 P) .nil .nil))) (.node (h29v14 P) (.node (h45v7 P) (.node (h77v13 P) .nil .nil) (.node (h109v15 P) .nil .nil)) (.node (h61v10 P) (.node (h93v15 P) .nil .nil) (.node (h125v15 P) .nil .nil)))))) (.node (h2v0 P) (.node (h4v0 P) (.node (h8v0 P) (.node (h16v0 P) (.node (h32v4 P) (.node (h64v11 P) .nil .nil) (.node (h96v15 P) .nil .nil)) (.node (h48v7 P) (.node (h80v13 P) .nil .nil) (.node (h112v15 P) .nil .nil))) (.node (h24v0 P) (.node (h40v5 P) (.node (h72v13 P) .nil .nil) (.node (h104v15 P) .nil .nil)) (.node (h56v10 P) (.node (h88v15 P) .nil .nil) (.node (h120v15 P) .nil .nil)))) (.node (h12v0 P) (.node (h20v0 P) (.node (h36v4 P) (.node (h68v11 P) .nil .nil) (.node (h100v15 P) .nil .nil)) (.node (h52v8 P) (.node (h84v14 P) .nil .nil) (.node (h116v15 P) .nil .nil))) (.node (h28v1 P) (.node (h44v7 P) (.node (h76v13 P) .nil .nil) (.node (h108v15 P) .nil .nil)) (.node (h60v10 P) (.node (h92v15 P) .nil .nil) (.node (h124v15 P) .nil .nil))))) (.node (h6v0 P) (.node (h10v0 P) (.node (h18v0 P) (.node (h34v4 P) (.node (h66v11 P) .nil .nil) (.node (h98v15 P) .nil .nil)) (.node (h50v8 P) (.node (h82v14 P) .nil .nil) (.node (h114v15 P) .nil .nil))) (.node (h26v0 P) (.node (h42v5 P) (.node (h74v13 P) .nil .nil) (.node (h106v15 P) .nil .nil)) (.node (h58v10 P) (.node (h90v15 P) .nil .nil) (.node (h122v15 P) .nil .nil)))) (.node (h14v0 P) (.node (h22v0 P) (.node (h38v5 P) (.node (h70v13 P) .nil .nil) (.node (h102v15 P) .nil .nil)) (.node (h54v8 P) (.node (h86v14 P) .nil .nil) (.node (h118v15 P) .nil .nil))) (.node (h30v1 P) (.node (h46v7 P) (.node (h78v13 P) .nil .nil) (.node (h110v15 P) .nil .nil)) (.node (h62v10 P) (.node (h94v15 P) .nil .nil) (.node (h126v15 P) .nil .nil)))))))
noncomputable def t15b (P : Params) : BT := (.node (h0v0 P) (.node (h1v0 P) (.node (h3v14 P) (.node (h7v0 P) (.node (h15v0 P) (.node (h31v1 P) (.node (h63v11 P) .nil .nil) (.node (h95v15 P) .nil .nil)) (.node (h47v7 P) (.node (h79v13 P) .nil .nil) (.node (h111v15 P) .nil .nil))) (.node (h23v0 P) (.node (h39v5 P) (.node (h71v13 P) .nil .nil) (.node (h103v15 P) .nil .nil)) (.node (h55v8 P) (.node (h87v14 P) .nil .nil) (.node (h119v15 P) .nil .nil)))) (.node (h11v0 P) (.node (h19v0 P) (.node (h35v4 P) (.node (h67v11 P) .nil .nil) (.node (h99v15 P) .nil .nil)) (.node (h51v8 P) (.node (h83v14 P) .nil .nil) (.node (h115v15 P) .nil .nil))) (.node (h27v0 P) (.node (h43v5 P) (.node (h75v13 P) .nil .nil) (.node (h107v15 P) .nil .nil)) (.node (h59v10 P) (.node (h91v15 P) .nil .nil) (.node (h123v15 P) .nil .nil))))) (.node (h5v0 P) (.node (h9v0 P) (.node (h17v0 P) (.node (h33v4 P) (.node (h65v11 P) .nil .nil) (.node (h97v15 P) .nil .nil)) (.node (h49v8 P) (.node (h81v14 P) .nil .nil) (.node (h113v15 P) .nil .nil))) (.node (h25v0 P) (.node (h41v5 P) (.node (h73v13 P) .nil .nil) (.node (h105v15 P) .nil .nil)) (.node (h57v10 P) (.node (h89v15 P) .nil .nil) (.node (h121v15 P) .nil .nil)))) (.node (h13v0 P) (.node (h21v0 P) (.node (h37v5 P) (.node (h69v11 P) .nil .nil) (.node (h101v15 P) .nil .nil)) (.node (h53v8 P) (.node (h85v14 P) .nil .nil) (.node (h117v15 P) .nil .nil))) (.node (h29v14 P) (.node (h45v7 P) (.node (h77v13 P) .nil .nil) (.node (h109v15 P) .nil .nil)) (.node (h61v10 P) (.node (h93v15 P) .nil .nil) (.node (h125v15 P) .nil .nil)))))) (.node (h2v0 P) (.node (h4v0 P) (.node (h8v0 P) (.node (h16v0 P) (.node (h32v4 P) (.node (h64v11 P) .nil .nil) (.node (h96v15 P) .nil .nil)) (.node (h48v7 P) (.node (h80v13 P) .nil .nil) (.node (h112v15 P) .nil .nil))) (.node (h24v0 P) (.node (h40v5 P) (.node (h72v13 P) .nil .nil) (.node (h104v15 P) .nil .nil)) (.node (h56v10 P) (.node (h88v15 P) .nil .nil) (.node (h120v15 P) .nil .nil)))) (.node (h12v0 P) (.node (h20v0 P) (.node (h36v4 P) (.node (h68v11 P) .nil .nil) (.node (h100v15 P) .nil .nil)) (.node (h52v8 P) (.node (h84v14 P) .nil .nil) (.node (h116v15 P) .nil .nil))) (.node (h28v1 P) (.node (h44v7 P) (.node (h76v13 P) .nil .nil) (.node (h108v15 P) .nil .nil)) (.node (h60v10 P) (.node (h92v15 P) .nil .nil) (.node (h124v15 P) .nil .nil))))) (.node (h6v0 P) (.node (h10v0 P) (.node (h18v0 P) (.node (h34v4 P) (.node (h66v11 P) .nil .nil) (.node (h98v15 P) .nil .nil)) (.node (h50v8 P) (.node (h82v14 P) .nil .nil) (.node (h114v15 P) .nil .nil))) (.node (h26v0 P) (.node (h42v5 P) (.node (h74v13 P) .nil .nil) (.node (h106v15 P) .nil .nil)) (.node (h58v10 P) (.node (h90v15 P) .nil .nil) (.node (h122v15 P) .nil .nil)))) (.node (h14v0 P) (.node (h22v0 P) (.node (h38v5 P) (.node (h70v13 P) .nil .nil) (.node (h102v15 P) .nil .nil)) (.node (h54v8 P) (.node (h86v14 P) .nil .nil) (.node (h118v15 P) .nil .nil))) (.node (h30v1 P) (.node (h46v7 P) (.node (h78v13 P) .nil .nil) (.node (h110v15 P) .nil .nil)) (.node (h62v10 P) (.node (h94v15 P) .nil .nil) (.node (h126v15 P) .nil .nil)))))))
noncomputable def t25 (P : Params) : BT := (.node (h0v0 P) (.node (h1v0 P) (.node (h3v25 P) (.node (h7v0 P) (.node (h15v0 P) (.node (h31v1 P) (.node (h63v11 P) (.node (h127v16 P) .nil .nil) .nil) (.node (h95v15 P) (.node (h159v21 P) .nil .nil) .nil)) (.node (h47v7 P) (.node (h79v13 P) (.node (h143v19 P) .nil .nil) .nil) (.node (h111v15 P) (.node (h175v24 P) .nil .nil) .nil))) (.node (h23v0 P) (.node (h39v5 P) (.node (h71v13 P) (.node (h135v18 P) .nil .nil) .nil) (.node (h103v15 P) (.node (h167v23 P) .nil .nil) .nil)) (.node (h55v8 P) (.node (h87v14 P) (.node (h151v20 P) .nil .nil) .nil) (.node (h119v15 P) .nil .nil)))) (.node (h11v0 P) (.node (h19v0 P) (.node (h35v4 P) (.node (h67v11 P) (.node (h131v16 P) .nil .nil) .nil) (.node (h99v15 P) (.node (h163v22 P) .nil .nil) .nil)) (.node (h51v8 P) (.node (h83v14 P) (.node (h147v19 P) .nil .nil) .nil) (.node (h115v15 P) (.node (h179v25 P) .nil .nil) .nil))) (.node (h27v0 P) (.node (h43v5 P) (.node (h75v13 P) (.node (h139v18 P) .nil .nil) .nil) (.node (h107v15 P) (.node (h171v23 P) .nil .nil) .nil)) (.node (h59v10 P) (.node (h91v15 P) (.node (h155v21 P) .nil .nil) .nil) (.node (h123v15 P) .nil .nil))))) (.node (h5v0 P) (.node (h9v0 P) (.node (h17v0 P) (.node (h33v4 P) (.node (h65v11 P) (.node (h129v16 P) .nil .nil) .nil) (.node (h97v15 P) (.node (h161v22 P) .nil .nil) .nil)) (.node (h49v8 P) (.node (h81v14 P) (.node (h145v19 P) .nil .nil) .nil) (.node (h113v15 P) (.node (h177v25 P) .nil .nil) .nil))) (.node (h25v0 P) (.node (h41v5 P) (.node (h73v13 P) (.node (h137v18 P) .nil .nil) .nil) (.node (h105v15 P) (.node (h169v23 P) .nil .nil) .nil)) (.node (h57v10 P) (.node (h89v15 P) (.node (h153v20 P) .nil .nil) .nil) (.node (h121v15 P) .nil .nil)))) (.node (h13v0 P) (.node (h21v0 P) (.node (h37v5 P) (.node (h69v11 P) (.node (h133v16 P) .nil .nil) .nil) (.node (h101v15 P) (.node (h165v22 P) .nil .nil) .nil)) (.node (h53v8 P) (.node (h85v14 P) (.node (h149v20 P) .nil .nil) .nil) (.node (h117v15 P) (.node (h181v25 P) .nil .nil) .nil))) (.node (h29v25 P) (.node (h45v7 P) (.node (h77v13 P) (.node (h141v19 P) .nil .nil) .nil) (.node (h109v15 P) (.node (h173v24 P) .nil .nil) .nil)) (.node (h61v10 P) (.node (h93v15 P) (.node (h157v21 P) .nil .nil) .nil) (.node (h125v15 P) .nil .nil)))))) (.node (h2v0 P) (.node (h4v0 P) (.node (h8v0 P) (.node (h16v0 P) (.node (h32v4 P) (.node (h64v11 P) (.node (h128v16 P) .nil .nil) .nil) (.node (h96v15 P) (.node (h160v22 P) .nil .nil) .nil)) (.node (h48v7 P) (.node (h80v13 P) (.node (h144v19 P) .nil .nil) .nil) (.node (h112v15 P) (.node (h176v24 P) .nil .nil) .nil))) (.node (h24v0 P) (.node (h40v5 P) (.node (h72v13 P) (.node (h136v18 P) .nil .nil) .nil) (.node (h104v15 P) (.node (h168v23 P) .nil .nil) .nil)) (.node (h56v10 P) (.node (h88v15 P) (.node (h152v20 P) .nil .nil) .nil) (.node (h120v15 P) .nil .nil)))) (.node (h12v0 P) (.node (h20v0 P) (.node (h36v4 P) (.node (h68v11 P) (.node (h132v16 P) .nil .nil) .nil) (.node (h100v15 P) (.node (h164v22 P) .nil .nil) .nil)) (.node (h52v8 P) (.node (h84v14 P) (.node (h148v20 P) .nil .nil) .nil) (.node (h116v15 P) (.node (h180v25 P) .nil .nil) .nil))) (.node (h28v1 P) (.node (h44v7 P) (.node (h76v13 P) (.node (h140v18 P) .nil .nil) .nil) (.node (h108v15 P) (.node (h172v24 P) .nil .nil) .nil)) (.node (h60v10 P) (.node (h92v15 P) (.node (h156v21 P) .nil .nil) .nil) (.node (h124v15 P) .nil .nil))))) (.node (h6v0 P) (.node (h10v0 P) (.node (h18v0 P) (.node (h34v4 P) (.node (h66v11 P) (.node (h130v16 P) .nil .nil) .nil) (.node (h98v15 P) (.node (h162v22 P) .nil .nil) .nil)) (.node (h50v8 P) (.node (h82v14 P) (.node (h146v19 P) .nil .nil) .nil) (.node (h114v15 P) (.node (h178v25 P) .nil .nil) .nil))) (.node (h26v0 P) (.node (h42v5 P) (.node (h74v13 P) (.node (h138v18 P) .nil .nil) .nil) (.node (h106v15 P) (.node (h170v23 P) .nil .nil) .nil)) (.node (h58v10 P) (.node (h90v15 P) (.node (h154v20 P) .nil .nil) .nil) (.node (h122v15 P) .nil .nil)))) (.node (h14v0 P) (.node (h22v0 P) (.node (h38v5 P) (.node (h70v13 P) (.node (h134v18 P) .nil .nil) .nil) (.node (h102v15 P) (.node (h166v22 P) .nil .nil) .nil)) (.node (h54v8 P) (.node (h86v14 P) (.node (h150v20 P) .nil .nil) .nil) (.node (h118v15 P) .nil .nil))) (.node (h30v1 P) (.node (h46v7 P) (.node (h78v13 P) (.node (h142v19 P) .nil .nil) .nil) (.node (h110v15 P) (.node (h174v24 P) .nil .nil) .nil)) (.node (h62v10 P) (.node (h94v15 P) (.node (h158v21 P) .nil .nil) .nil) (.node (h126v15 P) .nil .nil)))))))
noncomputable def env1 : Env := { scope := PySem.Challenge.pw_rx0107_01.main.scope, locals := mainNs, globals := mainNs, cells := [], code := .ref 30, frame := some 31 }
noncomputable def s0 (w : World) (os : OsState) : SharedT := ⟨t0 w.params, 28, {}, #[], {}, 276, os⟩
noncomputable def po0 : Pos := ⟨0, 0, 0, 0⟩
noncomputable def s2 (w : World) (os : OsState) : SharedT := ⟨t2 w.params, 32, {}, #[], {}, 282, os⟩
noncomputable def po2 : Pos := ⟨0, 0, 0, 0⟩
noncomputable def s6 (w : World) (os : OsState) : SharedT := ⟨t6 w.params, 44, {}, #[], {}, 333, os⟩
noncomputable def po6 : Pos := ⟨8, 0, 8, 8⟩
noncomputable def s7 (w : World) (os : OsState) : SharedT := ⟨t7 w.params, 49, {}, #[], {}, 479, os⟩
noncomputable def po7 : Pos := ⟨9, 0, 9, 18⟩
noncomputable def s12 (w : World) (os : OsState) : SharedT := ⟨t12 w.params, 70, {}, #[], {}, 522, os⟩
noncomputable def po12 : Pos := ⟨106, 0, 106, 8⟩
noncomputable def s13 (w : World) (os : OsState) : SharedT := ⟨t13 w.params, 81, {}, #[], {}, 582, os⟩
noncomputable def po13 : Pos := ⟨107, 0, 107, 6⟩
noncomputable def s14 (w : World) (os : OsState) : SharedT := ⟨t14 w.params, 88, {}, #[], {}, 589, os⟩
noncomputable def po14 : Pos := ⟨108, 0, 109, 30⟩
noncomputable def s15 (w : World) (os : OsState) : SharedT := ⟨t15 w.params, 127, {}, #[], {}, 2540, os⟩
noncomputable def po15 : Pos := ⟨110, 0, 110, 13⟩
noncomputable def s25 (w : World) (os : OsState) : SharedT := ⟨t25 w.params, 182, {}, #[], {}, 2612, os⟩
noncomputable def po25 : Pos := ⟨206, 0, 214, 81⟩
end
section
open PySem PySem.W PyProof.Rows PySem.Calls PySem.Spec
theorem reg_one : PySem.Challenge.rw_rx0107_01 = PySem.Challenge.rw_rx0107_01 ∧ K = K := by
  k_fill
  exact ⟨rfl, rfl⟩
section

/-- what a call of the def at `f` with `vs` gives back, from any caller's frame -/
noncomputable def Con (w : World) (f : Addr) (vs : List Value) (Pre : List (Addr × Obj) → Prop) (dep unt : Nat) (R : Value → List (Addr × Obj) → Prop) : Prop :=
  ∀ (p : Program) (loose : List Str) (mean : ExcName → Option Value) (mg mb : Str → Option Value) (dp un : Nat) (gd : Option (List Code)) (cn : Str) (cs : Scope) (a : Addr) (ccd : Value) (cl : List (Str × Addr)) (outer : List Env) (A₀ : Around) (base h₀ : Heap) (L : Addr) (m : Str → Option Value) (news : List (Addr × Obj)) (s : Shared) (Q E : Value → Shared → Prop),
    Below A₀ base outer h₀ → Fr h₀ L s.heap m → (K w.params).In h₀ → News h₀ L s.heap news → Top p loose mean mg mb h₀ → cs.kind = .function → Pre news → dp + dep < recursionLimit → un + unt < cLine →
    (∀ v tl h' tk', R v tl → (∀ q ∈ news, ∀ p ∈ tl, q.1 < p.1) → Fr h₀ L h' m → News h₀ L h' (tl ++ news) → Q v { s with heap := h', toks := tk' }) →
    wpAny (model PySem.Challenge.pw_rx0107_01 w) (ktrTop dp un gd cn cs L a ccd cl outer) (call (.ref f) vs) Q E s

noncomputable def isB1 (c : Nat) : Bool := es77.any fun e => Value.isInt (c : Int) e.2
section
variable {w : World} {f : Addr} {vs : List Value} {Pre : List (Addr × Obj) → Prop} {dep unt : Nat} {R : Value → List (Addr × Obj) → Prop} {p : Program} {loose : List Str} {mean : ExcName → Option Value} {mg mb : Str → Option Value} {dp un : Nat} {gd : Option (List Code)} {cn : Str} {cs : Scope} {a : Addr} {ccd : Value} {cl : List (Str × Addr)} {outer : List Env} {A₀ : Around} {base h₀ : Heap} {L : Addr} {m : Str → Option Value} {news : List (Addr × Obj)} {s : Shared} {Q E : Value → Shared → Prop}
theorem con_use (C : Con w f vs Pre dep unt R) (B : Below A₀ base outer h₀) (F : Fr h₀ L s.heap m) (X : (K w.params).In h₀) (N : News h₀ L s.heap news) (T : Top p loose mean mg mb h₀) (hk : cs.kind = .function) (hpre : Pre news) (hd : dp + dep < recursionLimit) (hu : un + unt < cLine)
    (ret : ∀ v tl h' tk', R v tl → (∀ q ∈ news, ∀ p ∈ tl, q.1 < p.1) → Fr h₀ L h' m → News h₀ L h' (tl ++ news) → Q v { s with heap := h', toks := tk' }) :
    wpAny (model PySem.Challenge.pw_rx0107_01 w) (ktrTop dp un gd cn cs L a ccd cl outer) (call (.ref f) vs) Q E s :=
  C p loose mean mg mb dp un gd cn cs a ccd cl outer A₀ base h₀ L m news s Q E B F X N T hk hpre hd hu ret
noncomputable abbrev ConB (w : World) (f : Addr) (vs : List Value) (dep unt : Nat) (b : Bool) : Prop := Con w f vs (fun _ => True) dep unt (fun v tl => tl = [] ∧ v = .bool b)
noncomputable abbrev ConS (w : World) (f : Addr) (vs : List Value) (dep unt : Nat) (x : Str) : Prop := Con w f vs (fun _ => True) dep unt (fun v tl => tl = [] ∧ ∃ u, v = .str x u)
theorem con_useB {b : Bool} (C : ConB w f vs dep unt b) (B : Below A₀ base outer h₀) (F : Fr h₀ L s.heap m) (X : (K w.params).In h₀) (N : News h₀ L s.heap news) (T : Top p loose mean mg mb h₀) (hk : cs.kind = .function) (hd : dp + dep < recursionLimit) (hu : un + unt < cLine)
    (ret : ∀ h' tk', Fr h₀ L h' m → News h₀ L h' news → Q (.bool b) { s with heap := h', toks := tk' }) :
    wpAny (model PySem.Challenge.pw_rx0107_01 w) (ktrTop dp un gd cn cs L a ccd cl outer) (call (.ref f) vs) Q E s :=
  con_use C B F X N T hk trivial hd hu fun v tl h' tk' r _ F' N' => by obtain ⟨rfl, rfl⟩ := r; exact ret h' tk' F' N'
theorem con_useS {x : Str} (C : ConS w f vs dep unt x) (B : Below A₀ base outer h₀) (F : Fr h₀ L s.heap m) (X : (K w.params).In h₀) (N : News h₀ L s.heap news) (T : Top p loose mean mg mb h₀) (hk : cs.kind = .function) (hd : dp + dep < recursionLimit) (hu : un + unt < cLine)
    (ret : ∀ u h' tk', Fr h₀ L h' m → News h₀ L h' news → Q (.str x u) { s with heap := h', toks := tk' }) :
    wpAny (model PySem.Challenge.pw_rx0107_01 w) (ktrTop dp un gd cn cs L a ccd cl outer) (call (.ref f) vs) Q E s :=
  con_use C B F X N T hk trivial hd hu fun v tl h' tk' r _ F' N' => by obtain ⟨rfl, u, rfl⟩ := r; exact ret u h' tk' F' N'
theorem con_endB {b b' : Bool} {h' : Heap} {tk' : Nat} (e : b' = b) (hret : ∀ v tl h' tk', (tl = [] ∧ v = .bool b) → (∀ q ∈ news, ∀ p ∈ tl, q.1 < p.1) → Fr h₀ L h' m → News h₀ L h' (tl ++ news) → Q v { s with heap := h', toks := tk' }) (F : Fr h₀ L h' m) (N : News h₀ L h' news) : Q (.bool b') { s with heap := h', toks := tk' } :=
  hret _ [] _ _ ⟨rfl, by rw [e]⟩ (fun _ _ _ h => nomatch h) F N
theorem con_endS {x x' : Str} {u : Tok} {h' : Heap} {tk' : Nat} (e : x' = x) (hret : ∀ v tl h' tk', (tl = [] ∧ ∃ u, v = .str x u) → (∀ q ∈ news, ∀ p ∈ tl, q.1 < p.1) → Fr h₀ L h' m → News h₀ L h' (tl ++ news) → Q v { s with heap := h', toks := tk' }) (F : Fr h₀ L h' m) (N : News h₀ L h' news) : Q (.str x' u) { s with heap := h', toks := tk' } :=
  hret _ [] _ _ ⟨rfl, u, by rw [e]⟩ (fun _ _ _ h => nomatch h) F N
theorem news_drop {tl : List (Addr × Obj)} {h : Heap} (N : News h₀ L h (tl ++ news)) : News h₀ L h news := fun p hp => N p (List.mem_append_right _ hp)
end

/-- as Con, but nothing is said of where the new objects lie -/
noncomputable def ConN (w : World) (f : Addr) (vs : List Value) (dep unt : Nat) (R : Value → List (Addr × Obj) → Prop) : Prop :=
  ∀ (p : Program) (loose : List Str) (mean : ExcName → Option Value) (mg mb : Str → Option Value) (dp un : Nat) (gd : Option (List Code)) (cn : Str) (cs : Scope) (a : Addr) (ccd : Value) (cl : List (Str × Addr)) (outer : List Env) (A₀ : Around) (base h₀ : Heap) (L : Addr) (m : Str → Option Value) (news : List (Addr × Obj)) (s : Shared) (Q E : Value → Shared → Prop),
    Below A₀ base outer h₀ → Fr h₀ L s.heap m → (K w.params).In h₀ → News h₀ L s.heap news → Top p loose mean mg mb h₀ → cs.kind = .function → dp + dep < recursionLimit → un + unt < cLine →
    (∀ v tl h' tk', R v tl → Fr h₀ L h' m → News h₀ L h' (tl ++ news) → Q v { s with heap := h', toks := tk' }) →
    wpAny (model PySem.Challenge.pw_rx0107_01 w) (ktrTop dp un gd cn cs L a ccd cl outer) (call (.ref f) vs) Q E s
theorem conN_use {w : World} {f : Addr} {vs : List Value} {dep unt : Nat} {R : Value → List (Addr × Obj) → Prop} {p : Program} {loose : List Str} {mean : ExcName → Option Value} {mg mb : Str → Option Value} {dp un : Nat} {gd : Option (List Code)} {cn : Str} {cs : Scope} {a : Addr} {ccd : Value} {cl : List (Str × Addr)} {outer : List Env} {A₀ : Around} {base h₀ : Heap} {L : Addr} {m : Str → Option Value} {news : List (Addr × Obj)} {s : Shared} {Q E : Value → Shared → Prop}
    (C : ConN w f vs dep unt R) (B : Below A₀ base outer h₀) (F : Fr h₀ L s.heap m) (X : (K w.params).In h₀) (N : News h₀ L s.heap news) (T : Top p loose mean mg mb h₀) (hk : cs.kind = .function) (hd : dp + dep < recursionLimit) (hu : un + unt < cLine)
    (ret : ∀ v tl h' tk', R v tl → Fr h₀ L h' m → News h₀ L h' (tl ++ news) → Q v { s with heap := h', toks := tk' }) :
    wpAny (model PySem.Challenge.pw_rx0107_01 w) (ktrTop dp un gd cn cs L a ccd cl outer) (call (.ref f) vs) Q E s :=
  C p loose mean mg mb dp un gd cn cs a ccd cl outer A₀ base h₀ L m news s Q E B F X N T hk hd hu ret

theorem ite_bt {b : Bool} {d : Decidable (b = true)} {P Q : Prop} (hb : b = true) (h : P) : @ite Prop (b = true) d P Q := by rw [if_pos hb]; exact h
theorem ite_bf {b : Bool} {d : Decidable (b = true)} {P Q : Prop} (hb : b = false) (h : Q) : @ite Prop (b = true) d P Q := by rw [if_neg (by rw [hb]; exact Bool.false_ne_true)]; exact h
structure Box (P : Prop) : Prop where
  out : P
end
section

section
variable {M : Model} {A : Around} {E : Value → Shared → Prop} {s s' : Shared} {env : Env} {test : PySem.Expr} {body orelse rest : List Stmt} {pos : Pos} {Q : Flow → Shared → Prop}
/-- a test that comes to b, in one step -/
structure Tst (M : Model) (A : Around) (env : Env) (E : Value → Shared → Prop) (s : Shared) (test : PySem.Expr) (b : Bool) (s' : Shared) : Prop where
  out : ∀ q : Bool → Shared → Prop, q b s' → wpAny M A (isTrue test env (eval test env)) q E s
theorem ifs_gen {b : Bool} (t : Tst M A env E s test b s') (h : if b = true then wpAny M A (execs body env) Q E s' else wpAny M A (execs orelse env) Q E s') : wpAny M A (exec (.If test body orelse pos) env) Q E s :=
  wpAny_If (t.out _ h)
theorem execs_one {st : Stmt} (h : wpAny M A (exec st env) Q E s) : wpAny M A (execs [st] env) Q E s := by
  refine wpAny_execs_cons (wpAny_mono h (fun f s₂ hq => ?_) fun _ _ e => e)
  cases f with
  | next => exact wpAny_execs_nil hq
  | brk => exact hq
  | cont => exact hq
  | ret v => exact hq
theorem ifs_t1 (t : Tst M A env E s test true s') (h : wpAny M A (execs body env) Q E s') : wpAny M A (execs [.If test body orelse pos] env) Q E s :=
  execs_one (ifs_gen t (by rw [if_pos rfl]; exact h))
theorem ifs_f1 (t : Tst M A env E s test false s') (h : wpAny M A (execs orelse env) Q E s') : wpAny M A (execs [.If test body orelse pos] env) Q E s :=
  execs_one (ifs_gen t (by rw [if_neg Bool.false_ne_true]; exact h))
theorem ifs_f0 (t : Tst M A env E s test false s') (h : wpAny M A (execs rest env) Q E s') : wpAny M A (execs (.If test body [] pos :: rest) env) Q E s :=
  wpAny_execs_cons (ifs_gen t (by
    simp only [Bool.false_eq_true, if_false]
    exact wpAny_execs_nil h))
theorem ifs_tc (t : Tst M A env E s test true s') (h : wpAny M A (execs body env) (fun f s₂ => match f with | .next => wpAny M A (execs rest env) Q E s₂ | f => Q f s₂) E s') : wpAny M A (execs (.If test body orelse pos :: rest) env) Q E s :=
  wpAny_execs_cons (ifs_gen t (by rw [if_pos rfl]; exact h))
end
section
variable {prog : Program} {w : World} {A : Around} {E : Value → Shared → Prop} {s : Shared} {h₀ : Heap} {L a : Addr} {m : Str → Option Value} {cn : Str} {cs : Scope} {ccd : Value} {cl : List (Str × Addr)} {x y : Str} {p1 p2 p3 : Pos} {k : Nat}
theorem tst_eqI {v c : Int} {t : Tok} {b : Bool} (F : Fr h₀ L s.heap m) (hv : m x = some (.int v t)) (hb : (v == c) = b) (hk : cs.kind = .function := by rfl) (hx : (envX cn cs L a ccd cl).kindOf x = some .local := by rfl) (hd : (x == ("__debug__" : Str)) = false := by decide) :
    Tst (model prog w) A (envX cn cs L a ccd cl) E s (.Compare (.Name x p1) [.Eq] [.Constant (.int c) k p2] p3) b { s with toks := s.toks + 1 } := ⟨fun q h =>
  wpAny_isTrue_Compare1 (nameX_L F hv (wpAny_Constant_int (eq_int (wpAny_truthy_bool (by rw [hb]; exact h)))) hk hx hd) rfl⟩
theorem tst_eqS {v c : Str} {t : Tok} {b : Bool} (F : Fr h₀ L s.heap m) (hv : m x = some (.str v t)) (hb : (v == c) = b) (hk : cs.kind = .function := by rfl) (hx : (envX cn cs L a ccd cl).kindOf x = some .local := by rfl) (hd : (x == ("__debug__" : Str)) = false := by decide) :
    Tst (model prog w) A (envX cn cs L a ccd cl) E s (.Compare (.Name x p1) [.Eq] [.Constant (.str c) k p2] p3) b { s with toks := s.toks + 1 } := ⟨fun q h =>
  wpAny_isTrue_Compare1 (nameX_L F hv (PySem.Calls.Constant_str (eq_str (by rw [hb]; exact wpAny_truthy_bool h))) hk hx hd) rfl⟩
theorem tst_lt {v c : Int} {t u : Tok} {q : Bool → Shared → Prop} (F : Fr h₀ L s.heap m) (hv : m x = some (.int v t)) (hu : m y = some (.int c u)) (h : q (decide (v < c)) s) (hk : cs.kind = .function := by rfl) (hx : (envX cn cs L a ccd cl).kindOf x = some .local := by rfl) (hy : (envX cn cs L a ccd cl).kindOf y = some .local := by rfl) (hd : (x == ("__debug__" : Str)) = false := by decide) (hd2 : (y == ("__debug__" : Str)) = false := by decide) :
    wpAny (model prog w) A (isTrue (.Compare (.Name x p1) [.Lt] [.Name y p2] p3) (envX cn cs L a ccd cl) (eval (.Compare (.Name x p1) [.Lt] [.Name y p2] p3) (envX cn cs L a ccd cl))) q E s :=
  wpAny_isTrue_Compare1 (nameX_L F hv (nameX_L F hu (lt_int (wpAny_truthy_bool h)) hk hy hd2) hk hx hd) rfl
end
end
section

theorem off_st {α : Type} {b : Bool} {u r x : α} (h : b = false) (e : r = x) : (if b = true then u else r) = x := by rw [if_neg (by rw [h]; exact Bool.false_ne_true)]; exact e
theorem off_st0 {z : Str} {u r x : Option Value} (e : r = x) : (if ([] : List Str).contains z = true then u else r) = x := off_st rfl e
theorem off_ite {z y : Str} {v r x : Option Value} (h : z ≠ y) (e : r = x) : (if z = y then v else r) = x := by rw [if_neg h]; exact e
theorem off_kst {M : Str → Option Value} {ps : List (Str × Value)} {y : Str} {v : Value} {z : Str} {x : Option Value} (h : z ≠ y) (e : kstB M ps z = x) : kstB M ((y, v) :: ps) z = x := by
  show (if z = y then some v else kstB M ps z) = x
  rw [if_neg h]; exact e
theorem off_nil {M : Str → Option Value} {z : Str} {x : Option Value} (e : M z = x) : kstB M [] z = x := e
theorem ne_st {z y : Str} {l : List Str} (h : l.contains z = false) (hm : y ∈ l) : z ≠ y := fun e => by
  have := List.contains_iff_mem.mpr hm
  rw [← e, h] at this
  cases this
theorem let_env {M : Model} {A : Around} {env : Env} {body : List Stmt} {Q : Flow → Shared → Prop} {E : Value → Shared → Prop} {s : Shared} (h : let A₁ := A; let e₁ := env; wpAny M A₁ (execs body e₁) Q E s) : wpAny M A (execs body env) Q E s := h
section
variable {M : Model} {A : Around} {E : Value → Shared → Prop} {s : Shared} {h₀ : Heap} {L a : Addr} {m : Str → Option Value} {cn : Str} {cs : Scope} {ccd : Value} {cl : List (Str × Addr)} {x : Str} {news : List (Addr × Obj)} {Q : Unit → Shared → Prop}
/-- a store of an int (of a text) forgets the token -/
theorem storeX_I {k : Int} {t : Tok} (F : Fr h₀ L s.heap m) (N : News h₀ L s.heap news)
    (h : ∀ t' h', Fr h₀ L h' (fun y => if y = x then some (.int k t') else m y) → News h₀ L h' news → Q () { s with heap := h', toks := s.toks + 1 })
    (hk : cs.kind = .function := by rfl) (hx : (envX cn cs L a ccd cl).kindOf x = some .local := by rfl) : wpAny M A (storeName (envX cn cs L a ccd cl) x (.int k t)) Q E s :=
  storeX_L F N (fun h' F' N' => h t h' F' N') hk hx
theorem storeX_S {k : Str} {t : Tok} (F : Fr h₀ L s.heap m) (N : News h₀ L s.heap news)
    (h : ∀ t' h', Fr h₀ L h' (fun y => if y = x then some (.str k t') else m y) → News h₀ L h' news → Q () { s with heap := h', toks := s.toks + 1 })
    (hk : cs.kind = .function := by rfl) (hx : (envX cn cs L a ccd cl).kindOf x = some .local := by rfl) : wpAny M A (storeName (envX cn cs L a ccd cl) x (.str k t)) Q E s :=
  storeX_L F N (fun h' F' N' => h t h' F' N') hk hx
end
section
variable {α : Type} {a b c d : α} {l : List α}
theorem me0 : a ∈ a :: l := .head _
theorem me1 : a ∈ b :: a :: l := .tail _ me0
theorem me2 : a ∈ b :: c :: a :: l := .tail _ me1
theorem me3 : a ∈ b :: c :: d :: a :: l := .tail _ me2
end
theorem om1 (i : Nat) : (0 : Int) ≤ (i : Int) + 1 := Int.natCast_nonneg (i + 1)
theorem om2 {i n : Nat} (h : i < n) : (i : Int) < n := Int.ofNat_lt.mpr h
theorem om3 {i n m : Nat} (e : m = n) (h : i < n) : (i : Int) < m := Int.ofNat_lt.mpr (Nat.lt_of_lt_of_eq h e.symm)
theorem om4 {i n : Nat} (h : ¬ i < n) : ¬ (i : Int) < n := fun h' => h (Int.ofNat_lt.mp h')
theorem om5 {i n m : Nat} (e : m = n) (h : ¬ i < n) : ¬ (i : Int) < m := fun h' => h (Nat.lt_of_lt_of_eq (Int.ofNat_lt.mp h') e)
theorem om6 {i n : Nat} (h : i + 1 < n) : (i : Int) + 1 < n := (Int.ofNat_lt (n := i + 1)).mpr h
theorem om7 {i n : Nat} (h : ¬ i + 1 < n) : ¬ (i : Int) + 1 < n := fun h' => h ((Int.ofNat_lt (n := i + 1)).mp h')
theorem om8 {i n : Nat} (h : i ≤ n) (h' : ¬ i < n) : i = n := Nat.le_antisymm h (Nat.le_of_not_lt h')
theorem om9 {i n : Nat} (h : i < n) : n - (i + 1) < n - i := Nat.sub_lt_sub_left h (Nat.lt_succ_self i)
theorem om10 {i n : Nat} (h : i = n) : (i : Int) = n := congrArg Int.ofNat h
theorem om11 {i n : Nat} (h : ¬ i = n) : ¬ (i : Int) = n := fun e => h (Int.ofNat.inj e)
theorem om12 {i n m : Nat} (e : m = n) (h : i = n) : (i : Int) = m := congrArg Int.ofNat (h.trans e.symm)
theorem om13 {i n m : Nat} (e : m = n) (h : ¬ i = n) : ¬ (i : Int) = m := fun e' => h ((Int.ofNat.inj e').trans e)
theorem om14 {i n : Nat} (h : i < n) (hn : n ≤ 1000) : (i : Int) < 2 ^ 62 := Int.lt_of_lt_of_le (Int.ofNat_lt.mpr (Nat.lt_of_lt_of_le h hn)) (by decide)
theorem om15 {i n m : Nat} (e : m = n) (h : i < n) (hm : m ≤ 1000) : (i : Int) < 2 ^ 62 := om14 (Nat.lt_of_lt_of_eq h e.symm) hm
theorem om16 {i n : Nat} (h : i < n) (hn : n ≤ 1000) : (i : Int) + 1 < 2 ^ 62 := Int.lt_of_le_of_lt ((Int.ofNat_le (m := i + 1)).mpr (Nat.le_trans h hn)) (by decide)
theorem om17 {i n m : Nat} (e : m = n) (h : i < n) (hm : m ≤ 1000) : (i : Int) + 1 < 2 ^ 62 := om16 (Nat.lt_of_lt_of_eq h e.symm) hm
theorem om18 {i n : Nat} (h : i < n) : (i : Int) + 1 ≤ n := (Int.ofNat_le (m := i + 1)).mpr h
theorem om19 {i n m : Nat} (e : m = n) (h : i + 1 = n) : (i : Int) + 1 = m := congrArg Int.ofNat (h.trans e.symm)
theorem om20 {i n m : Nat} (e : m = n) (h : ¬ i + 1 = n) : ¬ (i : Int) + 1 = m := fun e' => h ((Int.ofNat.inj (show Int.ofNat (i + 1) = Int.ofNat m from e')).trans e)
theorem om21 {i n : Nat} (h : ¬ i < n) : n ≤ i := Nat.le_of_not_lt h
theorem om22 {d k l : Nat} (h : d + (k + 1) < l) : d < l := Nat.lt_of_le_of_lt (Nat.le_add_right _ _) h
theorem om23 {a b n : Nat} (h : a ≤ b) (hb : b ≤ n) : a ≤ n := Nat.le_trans h hb
theorem om24 {b : Nat} {us : List Value} (h : us.length ≤ b) (hb : b ≤ 16777216) : us.toArray.size ≤ sizeLine := by rw [sizeLine_eq]; exact Nat.le_trans h hb
theorem om25 {i n : Nat} (h : ¬ i = n) (hl : i ≤ n) : ¬ (i : Int) ≥ n := fun g => h (Nat.le_antisymm hl (Int.ofNat_le.mp g))
theorem om26 {i n : Nat} (h : i = n) : (n : Int) ≤ i := Int.ofNat_le.mpr (Nat.le_of_eq h.symm)
theorem om38 {u i n m : Nat} (h : u ≤ 2 * i) (hi : i < n) (e : m = n) (hz : m ≤ 1000) : u ≤ 2000 := Nat.le_trans h (Nat.mul_le_mul_left 2 (Nat.le_trans (Nat.le_of_lt hi) (Nat.le_trans (Nat.le_of_eq e.symm) hz)))
theorem om39 {us : List Value} {v : Value} {i : Nat} (h : us.length ≤ 2 * i) : (us ++ [v]).length ≤ 2 * (i + 1) := by rw [List.length_append]; exact Nat.le_succ_of_le (Nat.add_le_add_right h 1)
theorem om40 {us : List Value} {v v' : Value} {i j : Nat} (h : us.length ≤ 2 * i) (lo : i + 1 ≤ j) : (us ++ [v] ++ [v']).length ≤ 2 * j := by
  rw [List.length_append, List.length_append]; exact Nat.le_trans (Nat.add_le_add_right (Nat.add_le_add_right h 1) 1) (Nat.mul_le_mul_left 2 lo)
theorem om41 {α : Type} {l : List α} {i : Nat} (h : i < l.length) : l.drop i ≠ [] := fun q => absurd (List.drop_eq_nil_iff.mp q) (Nat.not_le_of_lt h)
theorem om42 {α : Type} {l : List α} {v : α} {i : Nat} (h : l.length ≤ i) : (l ++ [v]).length ≤ i + 1 := by rw [List.length_append]; exact Nat.add_le_add_right h 1
theorem omfm (q k : Nat) : Int.fmod (q : Int) (OfNat.ofNat k) = ((q % k : Nat) : Int) := by
  show Int.fmod (q : Int) (k : Int) = _
  rw [Int.fmod_eq_emod_of_nonneg _ (Int.natCast_nonneg k)]; rfl
theorem omfd (q k : Nat) : Int.fdiv (q : Int) (OfNat.ofNat k) = ((q / k : Nat) : Int) := by
  show Int.fdiv (q : Int) (k : Int) = _
  rw [Int.fdiv_eq_ediv_of_nonneg _ (Int.natCast_nonneg k)]; rfl
section
variable {q m k c : Nat}
theorem omA0 : 0 ≤ OfNat.ofNat c + Int.fmod (q : Int) (OfNat.ofNat k) := by
  rw [omfm]; exact Int.natCast_nonneg (c + q % k)
theorem omA1 (h : c + k ≤ 1114112) (hk : 0 < k) : OfNat.ofNat c + Int.fmod (q : Int) (OfNat.ofNat k) ≤ 1114111 := by
  rw [omfm]; exact (Int.ofNat_le (m := c + q % k)).mpr (Nat.le_of_lt_succ (Nat.lt_of_lt_of_le (Nat.add_lt_add_left (Nat.mod_lt q hk) c) h))
theorem omA2 : (OfNat.ofNat c + Int.fmod (q : Int) (OfNat.ofNat k)).toNat = c + q % k := by
  rw [omfm]; rfl
theorem omB0 : 0 ≤ OfNat.ofNat c + Int.fmod (Int.fdiv (q : Int) (OfNat.ofNat m)) (OfNat.ofNat k) := by
  rw [omfd]; exact omA0
theorem omB1 (h : c + k ≤ 1114112) (hk : 0 < k) : OfNat.ofNat c + Int.fmod (Int.fdiv (q : Int) (OfNat.ofNat m)) (OfNat.ofNat k) ≤ 1114111 := by
  rw [omfd]; exact omA1 h hk
theorem omB2 : (OfNat.ofNat c + Int.fmod (Int.fdiv (q : Int) (OfNat.ofNat m)) (OfNat.ofNat k)).toNat = c + q / m % k := by
  rw [omfd]; exact omA2
theorem omC0 : 0 ≤ Int.fmod (q : Int) (OfNat.ofNat k) := by
  rw [omfm]; exact Int.natCast_nonneg _
theorem omC2 {b : Int} (hb : (k : Int) ≤ b) (hk : 0 < k) : Int.fmod (q : Int) (OfNat.ofNat k) < b := by
  rw [omfm]; exact Int.lt_of_lt_of_le (Int.ofNat_lt.mpr (Nat.mod_lt q hk)) hb
theorem omD0 : 0 ≤ Int.fmod (Int.fdiv (q : Int) (OfNat.ofNat m)) (OfNat.ofNat k) := by
  rw [omfd]; exact omC0
theorem omD2 {b : Int} (hb : (k : Int) ≤ b) (hk : 0 < k) : Int.fmod (Int.fdiv (q : Int) (OfNat.ofNat m)) (OfNat.ofNat k) < b := by
  rw [omfd]; exact omC2 hb hk
theorem omE0 {z : Int} {g : Nat} (h : Box (z = 119808 + 52 * (g : Int) ∧ g ≤ 12)) : 0 ≤ z + Int.fmod (q : Int) (OfNat.ofNat k) := by
  rw [h.out.1, omfm]; exact Int.natCast_nonneg (119808 + 52 * g + q % k)
theorem omE1 {z : Int} {g : Nat} (h : Box (z = 119808 + 52 * (g : Int) ∧ g ≤ 12)) (hk : k ≤ 1000) (h0 : 0 < k) : z + Int.fmod (q : Int) (OfNat.ofNat k) ≤ 1114111 := by
  rw [h.out.1, omfm]; exact (Int.ofNat_le (m := 119808 + 52 * g + q % k) (n := 1114111)).mpr (Nat.le_trans (Nat.add_le_add (Nat.add_le_add_left (Nat.mul_le_mul_left 52 h.out.2) _) (Nat.le_trans (Nat.le_of_lt (Nat.mod_lt q h0)) hk)) (by decide))
theorem omF0 {k' d : Nat} : 0 ≤ OfNat.ofNat c + OfNat.ofNat d * Int.fmod (Int.fdiv (q : Int) (OfNat.ofNat m)) (OfNat.ofNat k) + Int.fmod (q : Int) (OfNat.ofNat k') := by
  rw [omfd, omfm, omfm]; exact Int.natCast_nonneg (c + d * (q / m % k) + q % k')
theorem omF1 {k' : Nat} (hk : 0 < k) (hk' : 0 < k') (h : c + 58 * k + k' ≤ 1114112) : OfNat.ofNat c + 58 * Int.fmod (Int.fdiv (q : Int) (OfNat.ofNat m)) (OfNat.ofNat k) + Int.fmod (q : Int) (OfNat.ofNat k') ≤ 1114111 := by
  rw [omfd, omfm, omfm]
  exact (Int.ofNat_le (m := c + 58 * (q / m % k) + q % k') (n := 1114111)).mpr (Nat.le_of_lt_succ (Nat.lt_of_lt_of_le (Nat.add_lt_add_of_le_of_lt (Nat.add_le_add_left (Nat.mul_le_mul_left 58 (Nat.le_of_lt (Nat.mod_lt _ hk))) _) (Nat.mod_lt q hk')) h))
theorem omG0 : 0 ≤ Int.fmod (q : Int) (OfNat.ofNat k) + OfNat.ofNat c := by
  rw [omfm]; exact Int.natCast_nonneg (q % k + c)
theorem omG1 (h : k + c ≤ 1114112) (hk : 0 < k) : Int.fmod (q : Int) (OfNat.ofNat k) + OfNat.ofNat c ≤ 1114111 := by
  rw [omfm]; exact (Int.ofNat_le (m := q % k + c)).mpr (Nat.le_of_lt_succ (Nat.lt_of_lt_of_le (Nat.add_lt_add_right (Nat.mod_lt q hk) c) h))
theorem omG2 (h : k + c ≤ 1114112) (hk : 0 < k) : (Int.fmod (q : Int) (OfNat.ofNat k) + OfNat.ofNat c).toNat < 1114112 := by
  rw [omfm]; exact Nat.lt_of_lt_of_le (Nat.add_lt_add_right (Nat.mod_lt q hk) c) h
theorem omC1 (h : k ≤ 1114112) (hk : 0 < k) : Int.fmod (q : Int) (OfNat.ofNat k) ≤ 1114111 := by
  rw [omfm]; exact (Int.ofNat_le (m := q % k)).mpr (Nat.le_of_lt_succ (Nat.lt_of_lt_of_le (Nat.mod_lt q hk) h))
theorem omC3 (h : k ≤ 1114112) (hk : 0 < k) : (Int.fmod (q : Int) (OfNat.ofNat k)).toNat < 1114112 := by
  rw [omfm]; exact Nat.lt_of_lt_of_le (Nat.mod_lt q hk) h
end
end
local macro_rules | `(tactic| walk_at "newTuple") => `(tactic| ((rename (Int.fmod _ _ = _) => hq1); (rename (Int.fdiv _ _ = _) => hq2); (simp only [hq1, hq2]); (clear hq1 hq2)))
local macro_rules | `(tactic| walk_at "call builtin:chr") => `(tactic| (k_dflt (refine' chr_of_range (by decide) (by decide) ?_)))
local macro_rules | `(tactic| walk_at "ite") => `(tactic| (first | (with_reducible refine' ite_bt (by decide) ?_) | (with_reducible refine' ite_bf (by decide) ?_)))
local macro_rules | `(tactic| walk_at "mine_mem") => `(tactic| first | assumption | exact List.mem_cons_self | (refine List.mem_cons_of_mem _ ?mm9; (case mm9 => walk_at "mine_mem")) | (refine List.mem_append_right _ ?mm9; (case mm9 => walk_at "mine_mem")) | (refine List.mem_append_left _ ?mm9; (case mm9 => walk_at "mine_mem")))
local macro_rules | `(tactic| walk_at "mine_upd") => `(tactic| first | exact Upd.head (by assumption) | (refine' Upd.tail (by assumption) (by walk_at "mine_upd")))
local macro_rules | `(tactic| walk_at "ite") => `(tactic| (first | (with_reducible refine' ite_bt (by (simp only [decide_eq_true_eq, beq_iff_eq]; omega)) ?_) | (with_reducible refine' ite_bf (by (simp only [decide_eq_false_iff_not, beq_eq_false_iff_ne, ne_eq]; omega)) ?_)))
local macro_rules | `(tactic| walk_at "eval Name") => `(tactic| (k_dflt (refine' nameX_L (by k_asm) (by rfl) ?_ (by rfl) (by rfl); k_whole)))
local macro_rules | `(tactic| walk_at "mine_tst") => `(tactic| first | exact tst_eqI (by k_asm) (by rfl) (by decide) | exact tst_eqS (by k_asm) (by rfl) (by walk_at "mine_eq"))
local macro_rules | `(tactic| walk_at "execs cons If nil") => `(tactic| (k_dflt (first | k_gentoks | refine ifs_f1 (by walk_at "mine_tst") ?_ | refine ifs_t1 (by walk_at "mine_tst") ?_); (try dsimp only)))
local macro_rules | `(tactic| walk_at "execs cons If cons") => `(tactic| (k_dflt (first | k_gentoks | refine ifs_f0 (by walk_at "mine_tst") ?_ | refine ifs_tc (by walk_at "mine_tst") ?_); (try dsimp only)))
local macro_rules | `(tactic| walk_at "storeName") => `(tactic| (k_dflt (first | refine' storeX_I (by k_asm) (by k_asm) ?_ (by rfl) (by rfl) | refine' storeX_S (by k_asm) (by k_asm) ?_ (by rfl) (by rfl)); (try k_whole); intro t9 h9 F9 N9; (try k_sweep); (try dsimp only)))
local macro_rules | `(tactic| walk_at "mine_sz") => `(tactic| first | (rw [sizeLine_eq]; (simp only [List.size_toArray, List.length_append, List.length_cons, List.length_nil, List.length_take]); omega) | (rw [sizeLine_eq]; omega) | size_fits)
section

noncomputable def cat (ys : List Str) : Str := ⟨(ys.flatMap fun y => y.cps.toList).toArray⟩
theorem join_cat (ys : List Str) : Txt.join ⟨#[]⟩ ys = cat ys := by
  have e : ∀ ys : List Str, Str.join ⟨#[]⟩ ys = cat ys := by
    intro ys
    induction ys with
    | nil => rfl
    | cons x r ih =>
      rw [join_nil_cons, ih]
      show Str.mk _ = Str.mk _
      congr 1
      apply Array.toList_inj.mp
      simp [cat]
  unfold Txt.join; rw [StrLaws.glued_eq_join]; exact e ys
theorem cat_toList (ys : List Str) : (cat ys).cps.toList = ys.flatMap fun y => y.cps.toList := rfl
theorem strs_snoc {x : Str} {u : Tok} : ∀ {vs : List Value} {l : List Str}, StrsAre vs l → StrsAre (vs ++ [.str x u]) (l ++ [x])
  | _, _, .nil => .cons _ _ .nil
  | _, _, .cons _ _ r => .cons _ _ (strs_snoc r)
theorem join0 {prog : Program} {w : World} {A : Around} {s : Shared} {Q E : Value → Shared → Prop} {t : Tok} {D : Addr} {items : Array Value} {ys : List Str} (hl : s.heap.IsList D items) (hi : StrsAre items.toList ys) (hw : (ys.map (·.length)).sum + ys.length ≤ 1048576)
    (h : ∀ t' k, Q (.str (cat ys) t') { s with toks := k }) : wpAny (model prog w) A (call (.builtin "str.join") [.str ⟨#[]⟩ t, .ref D]) Q E s :=
  join_listW hl hi (by decide) hw fun t' k => by rw [join_cat]; exact h t' k
theorem news_list {h₀ h : Heap} {L D : Addr} {vs : List Value} {n : Nat} {news : List (Addr × Obj)} (N : News h₀ L h news) (hm : (D, ({ cls := .type "list", data := .seq vs.toArray n } : Obj)) ∈ news) : h.IsList D vs.toArray := ⟨_, (N _ hm).1, rfl, n, rfl⟩
theorem sum_le {f : Str → Nat} {k : Nat} : ∀ {l : List Str}, (∀ x ∈ l, f x ≤ k) → (l.map f).sum ≤ k * l.length
  | [], _ => by simp
  | x :: r, h => by
    have h1 := h x (.head _)
    have h2 := sum_le (l := r) fun y hy => h y (.tail _ hy)
    simp only [List.map_cons, List.sum_cons, List.length_cons, Nat.mul_add]
    omega
end
section

noncomputable def PieceIs (o p : List Nat) (v : Value) (tl : List (Addr × Obj)) : Prop := ∃ a u1 u2, v = .ref a ∧ tl = [(a, tup [.str ⟨o.toArray⟩ u1, .str ⟨p.toArray⟩ u2])]
noncomputable abbrev ConP (w : World) (n : Int) (t : Tok) (o p : List Nat) : Prop := Con w 154 [.int n t] (fun _ => True) 2 40 (PieceIs o p)
theorem fm_nat (q k : Nat) : Int.fmod (q : Int) (k : Int) = ((q % k : Nat) : Int) := by
  rw [Int.fmod_eq_emod_of_nonneg _ (Int.natCast_nonneg k)]; rfl
theorem fd_nat (q k : Nat) : Int.fdiv (q : Int) (k : Int) = ((q / k : Nat) : Int) := by
  rw [Int.fdiv_eq_ediv_of_nonneg _ (Int.natCast_nonneg k)]; rfl
theorem memApp {tl news : List (Addr × Obj)} : ∀ q ∈ news, q ∈ tl ++ news := fun _ h => List.mem_append_right _ h
theorem allLt_right {D : Addr} {tl news : List (Addr × Obj)} (h : AllLt D (tl ++ news)) : AllLt D news := allLt_of fun p hp => ktn_ltOf h p (List.mem_append_right _ hp)
theorem memApp1 {x : Addr × Obj} {tl news : List (Addr × Obj)} : ∀ q ∈ news, q ∈ tl ++ x :: news := fun _ h => List.mem_append_right _ (.tail _ h)
theorem allLt_sub {D : Addr} {rest news : List (Addr × Obj)} (l : ∀ p ∈ rest, p.1 < D) (h : ∀ q ∈ news, q ∈ rest) : AllLt D news := allLt_of fun p hp => l p (h p hp)
theorem piece_end {h₀ h' : Heap} {L : Addr} {m : Str → Option Value} {news rest : List (Addr × Obj)} {s : Shared} {Q : Value → Shared → Prop} {o p : List Nat} {x y : Str} {u1 u2 : Tok} {D : Addr} {tk' : Nat}
    (hret : ∀ v tl h' tk', PieceIs o p v tl → (∀ q ∈ news, ∀ p ∈ tl, q.1 < p.1) → Fr h₀ L h' m → News h₀ L h' (tl ++ news) → Q v { s with heap := h', toks := tk' })
    (F : Fr h₀ L h' m) (N : News h₀ L h' ((D, tup [.str x u1, .str y u2]) :: rest)) (e1 : x = ⟨o.toArray⟩) (e2 : y = ⟨p.toArray⟩) (hr : ∀ q ∈ news, q ∈ rest) (hl : AllLt D news) : Q (.ref D) { s with heap := h', toks := tk' } := by
  subst e1 e2
  refine hret _ _ _ _ ⟨D, u1, u2, rfl, rfl⟩ (fun q hq p hp => ?_) F fun p hp => N p ?_
  · rw [List.mem_singleton.mp hp]; exact ktn_ltOf hl q hq
  · rcases List.mem_append.mp hp with hp | hp
    · rw [List.mem_singleton.mp hp]; exact .head _
    · exact .tail _ (hr p hp)
theorem memTail1 {a : Addr × Obj} {l : List (Addr × Obj)} : ∀ q ∈ l, q ∈ a :: l := fun _ h => .tail _ h
theorem memTail2 {a b : Addr × Obj} {l : List (Addr × Obj)} : ∀ q ∈ l, q ∈ a :: b :: l := fun _ h => .tail _ (.tail _ h)
theorem memTail3 {a b c : Addr × Obj} {l : List (Addr × Obj)} : ∀ q ∈ l, q ∈ a :: b :: c :: l := fun _ h => .tail _ (.tail _ (.tail _ h))
theorem memTailA {l r : List (Addr × Obj)} : ∀ q ∈ l, q ∈ r ++ l := fun _ h => List.mem_append_right _ h
theorem one_eqP {a b : Nat} (e : a = b) : (⟨#[a]⟩ : Str) = ⟨[b].toArray⟩ := by rw [e]
theorem open_eq {a b : Nat} (e : a = b) : (Str.ofString "[" ++ (⟨#[a]⟩ : Str)) = ⟨[91, b].toArray⟩ := by
  rw [e, show Str.ofString "[" = ⟨#[91]⟩ from by decide +kernel]
  rfl
theorem t6_eq (q : Nat) : Txt.item (Str.ofString "^&~|.# $+(\\") (Int.fmod (q : Int) 11) = ⟨[[94, 38, 126, 124, 46, 35, 32, 36, 43, 40, 92].getD (q % 11) 0].toArray⟩ := by
  have e : Int.fmod (q : Int) 11 = ((q % 11 : Nat) : Int) := fm_nat q 11
  rw [e]
  have key : ∀ j : Fin 11, Txt.item (Str.ofString "^&~|.# $+(\\") (j.val : Int) = ⟨[[94, 38, 126, 124, 46, 35, 32, 36, 43, 40, 92].getD j.val 0].toArray⟩ := by decide +kernel
  exact key ⟨q % 11, Nat.mod_lt _ (by decide)⟩
theorem lt16 : ∀ k : Nat, k < 16 → (k = 0 ∨ k = 1 ∨ k = 2 ∨ k = 3 ∨ k = 4 ∨ k = 5 ∨ k = 6 ∨ k = 7 ∨ k = 8 ∨ k = 9 ∨ k = 10 ∨ k = 11 ∨ k = 12 ∨ k = 13 ∨ k = 14 ∨ k = 15) := by decide
end
local macro_rules | `(tactic| walk_at "mine_lt") => `(tactic| first | assumption | exact allLt_of (by assumption) | ((rename _ ∧ AllLt _ _ => hq1); exact hq1.2) | ((rename _ ∧ _ ∧ AllLt _ _ => hq1); exact hq1.2.2) | ((rename _ ∧ _ ∧ _ ∧ AllLt _ _ => hq1); exact hq1.2.2.2) | exact allLt_right (by assumption) | exact allLt_sub (by assumption) memApp1 | exact allLt_sub (by assumption) memApp)
section

theorem set77 {w : World} {h : Heap} (X : (K w.params).In h) : h.SetOf (intKind PySem.Challenge.pw_rx0107_01 w) 77 (fun k => es77.any fun e => Value.isInt k e.2) 27 := by
  refine ⟨ob77 w.params, es77.toArray, 29, _, X 77 _ rfl, ⟨rfl, rfl, rfl⟩, rfl, ?_, ?_, by decide, rfl, rfl⟩
  · intro e he
    have h1 : es77.all (fun e => (match e.2 with | .int i _ => decide (e.1 = hashInt i) | _ => false) && e.2.scannable) = true := by decide +kernel
    have h2 := List.all_eq_true.mp h1 e he
    obtain ⟨h3, h4⟩ := Bool.and_eq_true_iff.mp h2
    refine ⟨?_, h4⟩
    obtain ⟨a, v⟩ := e
    cases v with
    | int i t => exact ⟨i, by simp [intKind, Value.isInt], of_decide_eq_true h3⟩
    | _ => cases h3
  · intro k
    simp only [List.any_eq_true]
    rfl
theorem in77 {w : World} {A : Around} {h₀ : Heap} {L : Addr} {m : Str → Option Value} {s : Shared} {Q E : Value → Shared → Prop} {i : Int} {t : Tok} (F : Fr h₀ L s.heap m) (X : (K w.params).In h₀)
    (h : Q (.bool (es77.any fun e => Value.isInt i e.2)) { s with toks := s.toks + 1 }) : wpAny (model PySem.Challenge.pw_rx0107_01 w) A (compareOp .In (.int i t) (.ref 77)) Q E s :=
  wpAny_inSet_of (knd := intKind _ _) (intKind_is _ _ i t) rfl (set77 (X.keeps F.keep)) h
set_option maxHeartbeats 4000000 in
theorem c_b1 (w : World) (c : Nat) (t : Tok) (hc : c < 1114112) : ConB w 87 [.str ⟨#[c]⟩ t] 1 8 (isB1 c) := by
  intro p loose mean mg mb dp un gd cn cs a ccd cl outer A₀ base h₀ L m news s Q E B F X N T hk hpre hd hu hret
  (refine wpAny_call ?_; k_dflt cell_enter; (try dsimp only [bd3, bd6, bd8, bd9, bd12, bd14, bd16, bd17, bd18, bd19, bd20, bd21, bd22, bd23, ar3, ar6, ar8, ar9, ar12, ar14, ar16, ar17, ar18, ar19, ar20, ar21, ar22, ar23, sc3, sc6, sc8, sc9, sc12, sc14, sc16, sc17, sc18, sc19, sc20, sc21, sc22, sc23] at *); (try simp only [List.map_cons, List.map_nil, List.nil_append, List.append_nil, List.cons_append] at *); (refine let_env ?_); intro A1 e1)
  (repeat' (first | (k_unfold; (try dsimp only)) | (k_end; wrow_close) | (k_here; (with_reducible show wpAny _ _ (compareOp CmpOp.In (Value.int _ _) (Value.ref 77)) _ _ _); k_dflt (refine' in77 ?k1 ?k2 ?_; (case k1 => k_asm); (case k2 => k_asm))) | walk1 | (dsimp only; first | (k_here; (with_reducible show wpAny _ _ (compareOp CmpOp.In (Value.int _ _) (Value.ref 77)) _ _ _); k_dflt (refine' in77 ?k1 ?k2 ?_; (case k1 => k_asm); (case k2 => k_asm))) | walk1) | (leave1; walk_say "STEP leave1"; try dsimp only) | fail "no step"))
  exact con_endB rfl hret (by assumption) (by assumption)
end
section

noncomputable def ent88 (c : Nat) : Option Value := findBy Value.isInt es88.toArray (c : Int)
theorem map88 {w : World} {h : Heap} (X : (K w.params).In h) : h.MapOf (intKind PySem.Challenge.pw_rx0107_01 w) 88 (fun k => findBy Value.isInt es88.toArray k) := by
  refine ⟨ob88, es88.toArray, 650, X 88 _ rfl, ⟨rfl, rfl, rfl⟩, rfl, ?_, fun _ => rfl⟩
  have key : ∀ (st : Nat) (l : List (Int × Str)) (t : Tok), ∀ e ∈ ents st t l, ∃ k, Value.isInt k e.key = true ∧ e.hash = hashInt k := by
    intro st l
    induction l with
    | nil => intro t e he; cases he
    | cons kv r ih =>
      intro t e he
      rcases List.mem_cons.mp he with rfl | he
      · exact ⟨kv.1, by simp [Value.isInt], rfl⟩
      · exact ih _ e he
  intro e he
  have he' : e ∈ es88 := by simpa using he
  rcases List.mem_append.mp he' with h1 | h1
  · exact key _ _ _ e h1
  · exact key _ _ _ e h1
theorem ent88_val : ∀ (c : Int), (findBy Value.isInt es88.toArray c = none ∧ tab88.find? (fun kv => kv.1 == c) = none) ∨ ∃ x t k, findBy Value.isInt es88.toArray c = some (.str x t) ∧ tab88.find? (fun kv => kv.1 == c) = some (k, x) := by
  have key : ∀ (st : Nat) (c : Int) (l : List (Int × Str)) (t : Tok), ((ents st t l).find? (fun e => Value.isInt c e.key) = none ∧ l.find? (fun kv => kv.1 == c) = none) ∨ ∃ e x u k, (ents st t l).find? (fun e => Value.isInt c e.key) = some e ∧ e.val = .str x u ∧ l.find? (fun kv => kv.1 == c) = some (k, x) := by
    intro st c l
    induction l with
    | nil => intro t; exact .inl ⟨rfl, rfl⟩
    | cons kv r ih =>
      intro t
      unfold ents
      by_cases hc : kv.1 = c
      · refine .inr ⟨_, kv.2, t + 1, kv.1, List.find?_cons_of_pos (by simp [Value.isInt, hc]), rfl, ?_⟩
        rw [List.find?_cons_of_pos (by simp [hc])]
      · rw [List.find?_cons_of_neg (by simp [Value.isInt, hc]), List.find?_cons_of_neg (by simp [hc])]
        exact ih (t + st)
  intro c
  unfold findBy es88
  rw [List.find?_toArray, List.find?_append]
  have e : tab88.find? (fun kv => kv.1 == c) = ((tab88.take 646).find? (fun kv => kv.1 == c)).or ((tab88.drop 646).find? (fun kv => kv.1 == c)) := by
    rw [← List.find?_append, List.take_append_drop]
  rw [e]
  rcases key 3 c (tab88.take 646) 589 with ⟨h1, h2⟩ | ⟨x, u, k, v, h1, h2, h3⟩
  · rw [h1, h2]
    rcases key 2 c (tab88.drop 646) 2527 with ⟨h3, h4⟩ | ⟨x, u, k, v, h3, h4, h5⟩
    · rw [h3, h4]; exact .inl ⟨rfl, rfl⟩
    · rw [h3, h5]; exact .inr ⟨_, _, _, congrArg some h4, rfl⟩
  · rw [h1, h3]; exact .inr ⟨_, _, _, congrArg some h2, rfl⟩
theorem get88 {w : World} {A : Around} {h₀ : Heap} {L : Addr} {m : Str → Option Value} {s : Shared} {Q E : Value → Shared → Prop} {i : Int} {t : Tok} (F : Fr h₀ L s.heap m) (X : (K w.params).In h₀)
    (h1 : tab88.find? (fun kv => kv.1 == i) = none → Q .none { s with toks := s.toks + 1 }) (h2 : ∀ x u k, tab88.find? (fun kv => kv.1 == i) = some (k, x) → Q (.str x u) { s with toks := s.toks + 1 }) :
    wpAny (model PySem.Challenge.pw_rx0107_01 w) A (call (.builtin "dict.get") [.ref 88, .int i t]) Q E s := by
  have hm := map88 (X.keeps F.keep)
  have h : Q ((findBy Value.isInt es88.toArray i).getD .none) { s with toks := s.toks + 1 } := by
    rcases ent88_val i with ⟨a, b⟩ | ⟨x, u, k, a, b⟩
    · rw [a]; exact h1 b
    · rw [a]; exact h2 x u k b
  exact call_meetsIn PySem.F.slot_dict_get hm.typeIs PySem.F.entry_dict_get (PySem.F.args_dict_get_2 _ _) (meets_dict_get (intKind _ _) 88 (intKind_is _ _ i t) rfl) ⟨_, hm, h⟩
theorem meth88 {w : World} {A : Around} {h₀ : Heap} {L : Addr} {m : Str → Option Value} {s : Shared} {pl : Sem Bool} {Q : Value × List Value → Shared → Prop} {E : Value → Shared → Prop} (F : Fr h₀ L s.heap m) (X : (K w.params).In h₀)
    (h : Q (.builtin "dict.get", [.ref 88]) s) : wpAny (model PySem.Challenge.pw_rx0107_01 w) A (getMethod (.ref 88) "get" pl) Q E s :=
  have hm := map88 (X.keeps F.keep)
  getMethod_builtin hm.typeIs PySem.F.plainAttrs_dict PySem.F.slot_dict_get PySem.F.type_dict_get hm.noDict h
noncomputable def b3 (c : Nat) : Str := match tab88.find? (fun kv => kv.1 == (c : Int)) with
  | some kv => kv.2
  | none => Txt.lower ⟨#[c]⟩
theorem b3_none {c : Nat} (h : tab88.find? (fun kv => kv.1 == (c : Int)) = none) : Txt.lower ⟨#[c]⟩ = b3 c := by unfold b3; rw [h]
theorem b3_some {c : Nat} {k : Int} {x : Str} (h : tab88.find? (fun kv => kv.1 == (c : Int)) = some (k, x)) : x = b3 c := by unfold b3; rw [h]
set_option maxHeartbeats 4000000 in
theorem c_b3 (w : World) (c : Nat) (t : Tok) (hc : c < 1114112) : ConS w 133 [.str ⟨#[c]⟩ t] 1 8 (b3 c) := by
  intro p loose mean mg mb dp un gd cn cs a ccd cl outer A₀ base h₀ L m news s Q E B F X N T hk hpre hd hu hret
  have hlen : PySem.Str.length ⟨#[c]⟩ = 1 := rfl
  (refine wpAny_call ?_; k_dflt cell_enter; (try dsimp only [bd3, bd6, bd8, bd9, bd12, bd14, bd16, bd17, bd18, bd19, bd20, bd21, bd22, bd23, ar3, ar6, ar8, ar9, ar12, ar14, ar16, ar17, ar18, ar19, ar20, ar21, ar22, ar23, sc3, sc6, sc8, sc9, sc12, sc14, sc16, sc17, sc18, sc19, sc20, sc21, sc22, sc23] at *); (try simp only [List.map_cons, List.map_nil, List.nil_append, List.append_nil, List.cons_append] at *); (refine let_env ?_); intro A1 e1)
  (repeat' (first | (k_unfold; (try dsimp only)) | (k_end; wrow_close) | (k_here; (with_reducible show wpAny _ _ (call (Value.builtin "dict.get") [Value.ref 88, Value.int _ _]) _ _ _); k_dflt (refine' get88 ?k1 ?k2 ?_ ?_; (case k1 => k_asm); (case k2 => k_asm)); (all_goals intros)) | (k_here; (with_reducible show wpAny _ _ (getMethod (Value.ref 88) _ _) _ _ _); k_dflt (refine' meth88 ?k1 ?k2 ?_; (case k1 => k_asm); (case k2 => k_asm))) | walk1 | (dsimp only; first | (k_here; (with_reducible show wpAny _ _ (call (Value.builtin "dict.get") [Value.ref 88, Value.int _ _]) _ _ _); k_dflt (refine' get88 ?k1 ?k2 ?_ ?_; (case k1 => k_asm); (case k2 => k_asm)); (all_goals intros)) | (k_here; (with_reducible show wpAny _ _ (getMethod (Value.ref 88) _ _) _ _ _); k_dflt (refine' meth88 ?k1 ?k2 ?_; (case k1 => k_asm); (case k2 => k_asm))) | walk1) | (leave1; walk_say "STEP leave1"; try dsimp only) | fail "no step"))
  · exact con_endS (b3_none (by assumption)) hret (by assumption) (by assumption)
  · exact con_endS (b3_some (by assumption)) hret (by assumption) (by assumption)

theorem tab_short : tab88.all (fun kv => decide (kv.2.cps.toList.length ≤ 4)) = true := by decide +kernel
theorem b3_short (c : Nat) : (b3 c).length ≤ 4 := by
  unfold b3
  cases h : tab88.find? (fun kv => kv.1 == (c : Int)) with
  | none =>
    have q : (Txt.lower ⟨#[c]⟩).length ≤ 3 * PySem.Str.length ⟨#[c]⟩ := len_lower _
    exact Nat.le_trans q (show 3 * 1 ≤ 4 by decide)
  | some kv =>
    have q := List.all_eq_true.mp tab_short kv (List.mem_of_find?_eq_some h)
    have q' := of_decide_eq_true q
    simpa [PySem.Str.length] using q'
end
section

section
open LCg LCt
theorem compEnd_mono {h₀ : Heap} {L : Addr} {m : Str → Option Value} {s₁ : Shared} {I C D : Addr} {oI oC oD : Obj} {S S' : List (Addr × Obj) → Prop} {r r' : Value → List (Addr × Obj) → Prop} {y : Value} {s₂ : Shared}
    (h : CompEnd h₀ L m s₁ I oI C oC D oD S r y s₂) (hS : ∀ nw, S nw → S' nw) (hr : ∀ nw, S nw → r y nw → r' y nw) : CompEnd h₀ L m s₁ I oI C oC D oD S' r' y s₂ := by
  obtain ⟨h', tk, nw, e, F, N, o, a, b⟩ := h
  exact ⟨h', tk, nw, e, F, N, o, hS _ a, hr _ a b⟩
variable {β : Type} {prog : Program} {w : World} {A : Around} {h₀ : Heap} {L : Addr} {m : Str → Option Value} {env : Env} {ct elt : PySem.Expr} {x : Str} {scope : Scope} {cl : List (Str × Addr)} {s : Shared} {S : List (Addr × Obj) → Prop} {P : Nat → Value → Prop} {Fin : List Value → List (Addr × Obj) → Prop} {news : List (Addr × Obj)}
theorem rest_T (items : List β) (IsI : β → Value → Prop) (Rel : List β → List Value → Prop) (hS : S news)
    (hP : ∀ i v, P i v → ∃ b, items[i]? = some b ∧ IsI b v) (h0 : Rel [] [])
    (turn : ∀ pre b post v ys I oI C oC D m₂ h tk (E' : Value → Shared → Prop), items = pre ++ b :: post → IsI b v → Rel pre ys → NsObj oC m₂ → m₂ x = some v → Fr h₀ L h m → News h₀ L h ((I, oI) :: (C, oC) :: (D, lst ys) :: news) → Off3 I C D news → ((@Ne Nat I C) ∧ (@Ne Nat I D) ∧ (@Ne Nat C D)) →
      wpAny (model prog w) A (isTrue ct (compEnvC scope cl C env) (eval ct (compEnvC scope cl C env))) (fun ok s' => if ok = true then
        wpAny (model prog w) A (eval elt (compEnvC scope cl C env)) (CompEnd h₀ L m { s with heap := h, toks := tk } I oI C oC D (lst ys) (fun nw => nw = news) (fun y _ => Rel (pre ++ [b]) (ys ++ [y]))) E' s'
        else CompEnd h₀ L m { s with heap := h, toks := tk } I oI C oC D (lst ys) (fun nw => nw = news) (fun _ _ => Rel (pre ++ [b]) ys) Value.none s') E' { s with heap := h, toks := tk })
    (fin : ∀ ys, Rel items ys → Fin ys news) : CompRestT prog w A h₀ L m env ct elt x scope cl s S P Fin items.length 0 [] news := by
  have key : ∀ (j i : Nat) (ys : List Value), i + j = items.length → Rel (items.take i) ys → CompRestT prog w A h₀ L m env ct elt x scope cl s S P Fin j i ys news := by
    intro j
    induction j with
    | zero =>
      intro i ys hi hy
      have e : i = items.length := by omega
      subst e
      rw [List.take_length] at hy
      exact CompRestT.zero (fin ys hy)
    | succ j ih =>
      intro i ys hi hy
      refine CompRestT.succ ?_
      intro v I oI C oC D m₂ h tk E' hv hC hx F N off ne
      obtain ⟨b, hb, hI⟩ := hP i v hv
      have ht : items.take (i + 1) = items.take i ++ [b] := by rw [List.take_add_one, hb]; rfl
      have e : items = items.take i ++ b :: items.drop (i + 1) := by
        have q := List.take_append_drop (i + 1) items
        rw [ht, List.append_assoc] at q
        exact q.symm
      refine wpAny_mono (turn _ b _ v ys I oI C oC D m₂ h tk E' e hI hy hC hx F N off ne) (fun ok s' hq => ?_) fun _ _ e => e
      cases ok with
      | true =>
        simp only [if_true] at hq ⊢
        refine wpAny_mono hq (fun y s₂ hq => compEnd_mono hq (fun nw e => e ▸ hS) fun nw e r => ?_) fun _ _ e => e
        subst e
        exact ih (i + 1) _ (by omega) (ht ▸ r)
      | false =>
        simp only [Bool.false_eq_true, if_false] at hq ⊢
        refine compEnd_mono hq (fun nw e => e ▸ hS) fun nw e r => ?_
        subst e
        exact ih (i + 1) _ (by omega) (ht ▸ r)
  exact key _ 0 [] (by omega) h0
theorem rest_U (items : List β) (IsI : β → Value → Prop) (Rel : List β → List Value → Prop) (hS : S news)
    (hP : ∀ i v, P i v → ∃ b, items[i]? = some b ∧ IsI b v) (h0 : Rel [] [])
    (turn : ∀ pre b post v ys I oI C oC D m₂ h tk (E' : Value → Shared → Prop), items = pre ++ b :: post → IsI b v → Rel pre ys → NsObj oC m₂ → m₂ x = some v → Fr h₀ L h m → News h₀ L h ((I, oI) :: (C, oC) :: (D, lst ys) :: news) → Off3 I C D news → ((@Ne Nat I C) ∧ (@Ne Nat I D) ∧ (@Ne Nat C D)) →
      wpAny (model prog w) A (eval elt (compEnvC scope cl C env)) (CompEnd h₀ L m { s with heap := h, toks := tk } I oI C oC D (lst ys) (fun nw => nw = news) (fun y _ => Rel (pre ++ [b]) (ys ++ [y]))) E' { s with heap := h, toks := tk })
    (fin : ∀ ys, Rel items ys → Fin ys news) : CompRest prog w A h₀ L m env elt x scope cl s S P Fin items.length 0 [] news := by
  have key : ∀ (j i : Nat) (ys : List Value), i + j = items.length → Rel (items.take i) ys → CompRest prog w A h₀ L m env elt x scope cl s S P Fin j i ys news := by
    intro j
    induction j with
    | zero =>
      intro i ys hi hy
      have e : i = items.length := by omega
      subst e
      rw [List.take_length] at hy
      exact CompRest.zero (fin ys hy)
    | succ j ih =>
      intro i ys hi hy
      refine CompRest.succ ?_
      intro v I oI C oC D m₂ h tk E' hv hC hx F N off ne
      obtain ⟨b, hb, hI⟩ := hP i v hv
      have ht : items.take (i + 1) = items.take i ++ [b] := by rw [List.take_add_one, hb]; rfl
      have e : items = items.take i ++ b :: items.drop (i + 1) := by
        have q := List.take_append_drop (i + 1) items
        rw [ht, List.append_assoc] at q
        exact q.symm
      refine wpAny_mono (turn _ b _ v ys I oI C oC D m₂ h tk E' e hI hy hC hx F N off ne) (fun y s₂ hq => compEnd_mono hq (fun nw e => e ▸ hS) fun nw e r => ?_) fun _ _ e => e
      subst e
      exact ih (i + 1) _ (by omega) (ht ▸ r)
  exact key _ 0 [] (by omega) h0

theorem sign_items (tx : Str) : ∀ i v, SignAt tx i v → ∃ c, tx.cps.toList[i]? = some c ∧ ∃ u, v = .str ⟨#[c]⟩ u := by
  rintro i v ⟨c, u, hc, rfl⟩
  exact ⟨c, by rw [Array.getElem?_toList, hc], u, rfl⟩

/-- the source of a comprehension is a text -/
noncomputable def SrcST (prog : Program) (w : World) (A : Around) (h₀ : Heap) (L : Addr) (m : Str → Option Value) (env : Env) (ct elt : PySem.Expr) (x : Str) (scope : Scope) (cl : List (Str × Addr)) (Fin : Shared → List Value → List (Addr × Obj) → Prop) (xv : Value) (s₁ : Shared) : Prop :=
  ∃ tx t news, xv = .str tx t ∧ A.handled = none ∧ Fr h₀ L s₁.heap m ∧ News h₀ L s₁.heap news ∧ tx.cps.size ≤ sizeLine ∧
    ∀ s₂ : Shared, (∃ h, s₂ = { s₁ with heap := h }) → CompRestT prog w A h₀ L m env ct elt x scope cl s₂ (fun _ => True) (SignAt tx) (Fin s₂) tx.cps.size 0 [] news
noncomputable def SrcSU (prog : Program) (w : World) (A : Around) (h₀ : Heap) (L : Addr) (m : Str → Option Value) (env : Env) (elt : PySem.Expr) (x : Str) (scope : Scope) (cl : List (Str × Addr)) (Fin : Shared → List Value → List (Addr × Obj) → Prop) (xv : Value) (s₁ : Shared) : Prop :=
  ∃ tx t news, xv = .str tx t ∧ A.handled = none ∧ Fr h₀ L s₁.heap m ∧ News h₀ L s₁.heap news ∧ tx.cps.size ≤ sizeLine ∧
    ∀ s₂ : Shared, (∃ h, s₂ = { s₁ with heap := h }) → CompRest prog w A h₀ L m env elt x scope cl s₂ (fun _ => True) (SignAt tx) (Fin s₂) tx.cps.size 0 [] news
variable {E : Value → Shared → Prop}
theorem str_st {I : Addr} {T : String} {tx : Str} {t : Tok} : ∀ i (h h' : Heap) (o : Obj) (nw : List (Addr × Obj)), h.IsStrIter I T tx t i → h.get? I = some o → h'.get? I = some o → (∀ b o, h₀.get? b = some o → h'.get? b = some o) → News h₀ L h' nw → True → h'.IsStrIter I T tx t i :=
  fun i h h' o nw st e e' _ _ _ => by obtain ⟨o', q, r⟩ := st; rw [e] at q; cases q; exact ⟨o, e', r⟩
theorem src_ST {iter : PySem.Expr} {px : Pos} {pos : Pos} {Fin : Shared → List Value → List (Addr × Obj) → Prop} {RR : Value → Addr → Result → Shared → Prop} {xv : Value} {s₁ : Shared}
    (hcell : ∀ y ∈ scope.names, y.2 ≠ .cell) (hkind : scope.kind = .function) (hx : scope.names.lookup x = some .local)
    (h₁ : SrcST prog w A h₀ L m env ct elt x scope cl Fin xv s₁)
    (hRR : ∀ s₂ : Shared, (∃ h, s₂ = { s₁ with heap := h }) → ∀ D C h tk m' ys news', Fr h₀ L h m → News h₀ L h ((D, lst ys) :: news') → Off1 D news' → h.Ns C m' → h₀.get? C = none → h₀.get? D = none → C ≠ L → D ≠ L → C ≠ D → (∀ p ∈ news', p.1 ≠ C) → Fin s₂ ys news' → RR (.ref D) C (.ok .next) { s₂ with heap := h, toks := tk }) :
    wpAny (model prog w) A (pyIter xv) (fun it s₂ => wpAny (model prog w) A (newList []) (fun acc s₃ => wpAny (model prog w) A (newFunctionEnv scope env.globals cl [] env.qual none .none (some env)) (fun cenv s₄ =>
        codeAny (model prog w) A (.compStart (.ListComp elt [⟨.Name x px, iter, [ct], 0⟩] scope pos) 0 it acc { cenv with scope := relabel scope env }) (RR acc cenv.locals) s₄) E s₃) E s₂) E s₁ := by
  obtain ⟨tx, t, news, rfl, hh, F, N, hsz, R⟩ := h₁
  have go : ∀ (T : String) (o : Obj), Walks prog w A s₁.heap.objs.size [s₁.heap.objs.size] [s₁.heap.objs.size] tx.cps.size (SignAt tx) (fun i h => h.IsStrIter s₁.heap.objs.size T tx t i) →
      (s₁.heap.push o).IsStrIter s₁.heap.objs.size T tx t 0 →
      wpAny (model prog w) A (newList []) (fun acc s₃ => wpAny (model prog w) A (newFunctionEnv scope env.globals cl [] env.qual none .none (some env)) (fun cenv s₄ =>
        codeAny (model prog w) A (.compStart (.ListComp elt [⟨.Name x px, iter, [ct], 0⟩] scope pos) 0 (.ref s₁.heap.objs.size) acc { cenv with scope := relabel scope env }) (RR acc cenv.locals) s₄) E s₃) E { s₁ with heap := s₁.heap.push o } := by
    intro T o W hst
    refine block_T (s₂ := { s₁ with heap := s₁.heap.push o }) W hsz (fun i h st => by obtain ⟨o, e, _⟩ := st; exact ⟨o, e⟩) str_st hcell hkind hx hst (fun b hb => ?_)
      (F.keeps fun _ _ e => Heap.get?_push_of_some _ e) (N.grown fun _ _ e => Heap.get?_push_of_some _ e) (Nat.ne_of_lt F.ns.lt) (next_is_new F) (fun p hp => Nat.ne_of_lt (Heap.lt_size (N p hp).1)) trivial (R _ ⟨_, rfl⟩) ?_
    · rw [List.mem_singleton.mp hb]
      show s₁.heap.objs.size < (s₁.heap.push _).objs.size
      rw [Heap.size_push]; exact Nat.lt_succ_self _
    · exact hRR _ ⟨_, rfl⟩
  cases ha : tx.cps.all (· < 128)
  · exact wpAny_pyIter_wide ha (go "str_iterator" _ (Walks.strWide hh _ tx t) ⟨_, Heap.get?_push_size _ rfl, rfl, rfl⟩)
  · exact wpAny_pyIter_ascii ha (go "str_ascii_iterator" _ (Walks.strAscii hh _ tx t) ⟨_, Heap.get?_push_size _ rfl, rfl, rfl⟩)
theorem src_SU {iter : PySem.Expr} {px : Pos} {pos : Pos} {Fin : Shared → List Value → List (Addr × Obj) → Prop} {RR : Value → Addr → Result → Shared → Prop} {xv : Value} {s₁ : Shared}
    (hcell : ∀ y ∈ scope.names, y.2 ≠ .cell) (hkind : scope.kind = .function) (hx : scope.names.lookup x = some .local)
    (h₁ : SrcSU prog w A h₀ L m env elt x scope cl Fin xv s₁)
    (hRR : ∀ s₂ : Shared, (∃ h, s₂ = { s₁ with heap := h }) → ∀ D C h tk m' ys news', Fr h₀ L h m → News h₀ L h ((D, lst ys) :: news') → Off1 D news' → h.Ns C m' → h₀.get? C = none → h₀.get? D = none → C ≠ L → D ≠ L → C ≠ D → (∀ p ∈ news', p.1 ≠ C) → Fin s₂ ys news' → RR (.ref D) C (.ok .next) { s₂ with heap := h, toks := tk }) :
    wpAny (model prog w) A (pyIter xv) (fun it s₂ => wpAny (model prog w) A (newList []) (fun acc s₃ => wpAny (model prog w) A (newFunctionEnv scope env.globals cl [] env.qual none .none (some env)) (fun cenv s₄ =>
        codeAny (model prog w) A (.compStart (.ListComp elt [⟨.Name x px, iter, [], 0⟩] scope pos) 0 it acc { cenv with scope := relabel scope env }) (RR acc cenv.locals) s₄) E s₃) E s₂) E s₁ := by
  obtain ⟨tx, t, news, rfl, hh, F, N, hsz, R⟩ := h₁
  have go : ∀ (T : String) (o : Obj), Walks prog w A s₁.heap.objs.size [s₁.heap.objs.size] [s₁.heap.objs.size] tx.cps.size (SignAt tx) (fun i h => h.IsStrIter s₁.heap.objs.size T tx t i) →
      (s₁.heap.push o).IsStrIter s₁.heap.objs.size T tx t 0 →
      wpAny (model prog w) A (newList []) (fun acc s₃ => wpAny (model prog w) A (newFunctionEnv scope env.globals cl [] env.qual none .none (some env)) (fun cenv s₄ =>
        codeAny (model prog w) A (.compStart (.ListComp elt [⟨.Name x px, iter, [], 0⟩] scope pos) 0 (.ref s₁.heap.objs.size) acc { cenv with scope := relabel scope env }) (RR acc cenv.locals) s₄) E s₃) E { s₁ with heap := s₁.heap.push o } := by
    intro T o W hst
    refine block_U (s₂ := { s₁ with heap := s₁.heap.push o }) W hsz (fun i h st => by obtain ⟨o, e, _⟩ := st; exact ⟨o, e⟩) str_st hcell hkind hx hst (fun b hb => ?_)
      (F.keeps fun _ _ e => Heap.get?_push_of_some _ e) (N.grown fun _ _ e => Heap.get?_push_of_some _ e) (Nat.ne_of_lt F.ns.lt) (next_is_new F) (fun p hp => Nat.ne_of_lt (Heap.lt_size (N p hp).1)) trivial (R _ ⟨_, rfl⟩) ?_
    · rw [List.mem_singleton.mp hb]
      show s₁.heap.objs.size < (s₁.heap.push _).objs.size
      rw [Heap.size_push]; exact Nat.lt_succ_self _
    · exact hRR _ ⟨_, rfl⟩
  cases ha : tx.cps.all (· < 128)
  · exact wpAny_pyIter_wide ha (go "str_iterator" _ (Walks.strWide hh _ tx t) ⟨_, Heap.get?_push_size _ rfl, rfl, rfl⟩)
  · exact wpAny_pyIter_ascii ha (go "str_ascii_iterator" _ (Walks.strAscii hh _ tx t) ⟨_, Heap.get?_push_size _ rfl, rfl, rfl⟩)
theorem comp_ST {iter : PySem.Expr} {px : Pos} {pos : Pos} {Q : Value → Shared → Prop} (_F₀ : Fr h₀ L s.heap m)
    (hclos : closureFor scope env = pure cl) (hcell : ∀ y ∈ scope.names, y.2 ≠ .cell) (hkind : scope.kind = .function)
    (hnames : ∀ y ∈ scope.names, y.2 = .local → scope.names.lookup y.1 = some .local) (hx : scope.names.lookup x = some .local)
    (h : wpAny (model prog w) A (eval iter env) (SrcST prog w A h₀ L m env ct elt x scope cl (fun s₂ => FinE h₀ L m s₂ Q)) E s)
    (hs : ∀ x, foldedSetIterable iter env x = pure x := by intro _; rfl) :
    wpAny (model prog w) A (eval (.ListComp elt [⟨.Name x px, iter, [ct], 0⟩] scope pos) env) Q E s := by
  rw [eval_ListComp]
  refine wpAny_comprehension_free (use := none) rfl hs hclos hkind hnames (wpAny_mono h (fun xv s₁ h₁ => src_ST hcell hkind hx h₁ ?_) fun _ _ e => e)
  intro s₂ _ D C h tk m' ys news' F' N' o1 hn hC₀ hD₀ hCL hDL hCD offC fin
  refine ⟨m', hn, fun h'' hs'' => fin D h'' tk (F'.change hs'' hCL hC₀) (fun p hp => ?_) o1⟩
  refine ⟨hs''.extBut _ _ ?_ (N' p hp).1, (N' p hp).2⟩
  rcases List.mem_cons.mp hp with rfl | hp
  · exact Ne.symm hCD
  · exact offC p hp
theorem assign_SU {iter : PySem.Expr} {y : Str} {px py : Pos} {pos spos : Pos} {Q : Flow → Shared → Prop} (_F₀ : Fr h₀ L s.heap m) (hLe : env.locals = L)
    (hsw : swapsWith (.ListComp elt [⟨.Name x px, iter, [], 0⟩] scope pos) (some (.Name y py)) spos.line env = pure true)
    (hclos : closureFor scope env = pure cl) (hcell : ∀ z ∈ scope.names, z.2 ≠ .cell) (hkind : scope.kind = .function)
    (hnames : ∀ z ∈ scope.names, z.2 = .local → scope.names.lookup z.1 = some .local) (hx : scope.names.lookup x = some .local)
    (hy : env.kindOf y = some .local) (hp : (env.scope.kind == .class || (env.scope.kind == .module && env.locals != env.globals)) = false)
    (h : wpAny (model prog w) A (eval iter env) (SrcSU prog w A h₀ L m env elt x scope cl (fun s₂ => FinA h₀ L m s₂ y Q)) E s)
    (hs : ∀ x, foldedSetIterable iter env x = pure x := by intro _; rfl) :
    wpAny (model prog w) A (exec (.Assign [.Name y py] (.ListComp elt [⟨.Name x px, iter, [], 0⟩] scope pos) spos) env) Q E s := by
  subst hLe
  rw [exec_Assign_Name_used _ _ _ _ hsw]
  refine wpAny_bind (wpAny_standAt (wpAny_bind ?_))
  show wpAny _ A (do let _ ← comprehension (.ListComp elt [⟨.Name x px, iter, [], 0⟩] scope pos) scope env _ (newList []) false (eval iter env) (some (assign (.Name y py) env))) _ _ s
  refine wpAny_bind (wpAny_mono (wpAny_comprehension_free (use := some (assign (.Name y py) env)) (Q := fun _ s' => Q .next s') rfl hs hclos hkind hnames
    (wpAny_mono h (fun xv s₁ h₁ => src_SU hcell hkind hx h₁ ?_) fun _ _ e => e)) (fun _ s' hq => wpAny_pure (wpAny_pure hq)) fun _ _ e => e)
  intro s₂ _ D C h' tk m' ys news' F' N' o1 hn hC₀ hD₀ hCL hDL hCD offC fin
  show wpAny _ A (assign (.Name y py) env (.ref D)) _ _ _
  refine wpAny_assign_Name (wpAny_storeName_local hy F'.ns (fun h₂ hn₂ hs₂ => ?_) hp)
  have hL₀ : h₀.get? env.locals = none := Heap.get?_none_of_le F'.above
  have F₂ : Fr h₀ env.locals h₂ (fun z => if z = y then some (.ref D) else m z) := ⟨hn₂, fun b o e => hs₂.extBut b o (fun q => by rw [q, hL₀] at e; cases e) (F'.keep b o e), F'.above⟩
  refine ⟨m', hn.sameBut hs₂ hCL, fun h'' hs'' => fin D h'' _ (F₂.change hs'' hCL hC₀) (fun p hp => ?_) o1⟩
  have z : h₂.get? p.1 = some p.2 := hs₂.extBut _ _ (N' p hp).2.1 (N' p hp).1
  refine ⟨hs''.extBut _ _ ?_ z, (N' p hp).2⟩
  rcases List.mem_cons.mp hp with rfl | hp
  · exact Ne.symm hCD
  · exact offC p hp
end
end
section

section
variable {prog : Program} {w : World} {A : Around} {E : Value → Shared → Prop} {s : Shared} {h₀ : Heap} {L : Addr} {news : List (Addr × Obj)}
theorem ints_get {vs : List Value} {l : List Int} (h : IntsAre vs l) : ∀ {i : Nat} {x : Int}, l[i]? = some x → ∃ u, vs[i]? = some (Value.int x u) := by
  induction h with
  | nil => intro i x h; simp at h
  | cons k t _ ih =>
    intro i x h
    cases i with
    | zero => cases h; exact ⟨_, rfl⟩
    | succ i => exact ih (by simpa using h)
theorem item_tupI {value slice : PySem.Expr} {a : Addr} {vs : List Value} {l : List Int} {k : Int} {u : Tok} {Q : Value → Shared → Prop} (N : News h₀ L s.heap news) (hm : (a, tup vs) ∈ news) (hi : IntsAre vs l) (h0 : 0 ≤ k) (h1 : k < l.length) (h2 : k < 2 ^ 62)
    (h : ∀ x u, l[k.toNat]? = some x → Q (.int x u) s)
    (hs : subscripted slice false (.ref a) (.int k u) = operate [.ref a, .int k u] (getItem (.ref a) (.int k u)) := by with_unfolding_all rfl) :
    wpAny (model prog w) A (subscriptTail value slice (.ref a) (.int k u)) Q E s := by
  have hl : k.toNat < l.length := by omega
  obtain ⟨u', hv⟩ := ints_get hi (List.getElem?_eq_getElem hl)
  have hlen : vs.length = l.length := hi.length.symm ▸ rfl
  refine item_tupleT (j := k.toNat) ⟨_, (N _ hm).1, rfl, _, rfl⟩ (by omega) (by omega) ?_ hv (h _ _ (List.getElem?_eq_getElem hl)) hs
  unfold seqIndex?
  have : ¬ k < 0 := by omega
  simp only [this, if_false, h0, decide_true, Bool.true_and]
  rw [if_pos]
  simp [hlen]; omega
theorem item_listV {value slice : PySem.Expr} {a : Addr} {vs : List Value} {n : Nat} {k : Int} {u : Tok} {v : Value} {Q : Value → Shared → Prop} (N : News h₀ L s.heap news) (hm : (a, ({ cls := .type "list", data := .seq vs.toArray n } : Obj)) ∈ news) (h0 : 0 ≤ k) (h2 : k < 2 ^ 62)
    (hv : vs[k.toNat]? = some v) (h : Q v s)
    (hs : subscripted slice false (.ref a) (.int k u) = operate [.ref a, .int k u] (getItem (.ref a) (.int k u)) := by with_unfolding_all rfl) :
    wpAny (model prog w) A (subscriptTail value slice (.ref a) (.int k u)) Q E s :=
  have hl := news_list N hm
  tail_any hl.typeIs slot_list_getitem.lookup (wpAny_getItem_list hl h0 (by omega) (by simpa using hv) h) hs
theorem item_listI {value slice : PySem.Expr} {a : Addr} {vs : List Value} {n : Nat} {l : List Int} {k : Int} {u : Tok} {Q : Value → Shared → Prop} (N : News h₀ L s.heap news) (hm : (a, ({ cls := .type "list", data := .seq vs.toArray n } : Obj)) ∈ news) (hi : IntsAre vs l) (h0 : 0 ≤ k) (h1 : k < l.length) (h2 : k < 2 ^ 62)
    (h : ∀ x u, l[k.toNat]? = some x → Q (.int x u) s)
    (hs : subscripted slice false (.ref a) (.int k u) = operate [.ref a, .int k u] (getItem (.ref a) (.int k u)) := by with_unfolding_all rfl) :
    wpAny (model prog w) A (subscriptTail value slice (.ref a) (.int k u)) Q E s := by
  have hl : k.toNat < l.length := by omega
  obtain ⟨u', hv⟩ := ints_get hi (List.getElem?_eq_getElem hl)
  exact item_listV N hm h0 h2 hv (h _ _ (List.getElem?_eq_getElem hl)) hs
end
end
section

noncomputable def b1L : List Int := [173, 847, 6150, 6155, 6156, 6157, 8203, 8204, 8205, 8288, 65279] ++ rangeInts 65024 1 (65040 - 65024 : Int).toNat
theorem noth_end {h₀ h' : Heap} {L D : Addr} {m : Str → Option Value} {news : List (Addr × Obj)} {s : Shared} {Q : Value → Shared → Prop} {vs : List Value} {k tk' : Nat}
    (hret : ∀ v tl h' tk', (∃ D vs n, v = .ref D ∧ IntsAre vs b1L ∧ tl = [(D, ({ cls := .type "list", data := .seq vs.toArray n } : Obj))]) → Fr h₀ L h' m → News h₀ L h' (tl ++ news) → Q v { s with heap := h', toks := tk' })
    (hi : IntsAre vs b1L) (F : Fr h₀ L h' m) (N : News h₀ L h' ([(D, ({ cls := .type "list", data := .seq vs.toArray k } : Obj))] ++ news)) : Q (.ref D) { s with heap := h', toks := tk' } :=
  hret _ _ _ _ ⟨D, vs, k, rfl, hi, rfl⟩ F N
set_option maxHeartbeats 4000000 in
theorem c_noth (w : World) : ConN w 147 [] 1 16 (fun v tl => ∃ D vs n, v = .ref D ∧ IntsAre vs b1L ∧ tl = [(D, ({ cls := .type "list", data := .seq vs.toArray n } : Obj))]) := by
  intro p loose mean mg mb dp un gd cn cs a ccd cl outer A₀ base h₀ L m news s Q E B F X N T hk hd hu hret
  (refine wpAny_call ?_; k_dflt cell_enter; (try dsimp only [bd3, bd6, bd8, bd9, bd12, bd14, bd16, bd17, bd18, bd19, bd20, bd21, bd22, bd23, ar3, ar6, ar8, ar9, ar12, ar14, ar16, ar17, ar18, ar19, ar20, ar21, ar22, ar23, sc3, sc6, sc8, sc9, sc12, sc14, sc16, sc17, sc18, sc19, sc20, sc21, sc22, sc23] at *); (try simp only [List.map_cons, List.map_nil, List.nil_append, List.append_nil, List.cons_append] at *); (refine let_env ?_); intro A1 e1)
  k_steps
  rename CarriedAll _ _ => hc
  rename Heap.IsList _ _ _ => hb
  rename News _ _ _ _ => N2
  refine add_arrays_ints (by assumption) N2 (news_list N2 (by k_mem)) hb (ns := [173, 847, 6150, 6155, 6156, 6157, 8203, 8204, 8205, 8288, 65279]) (by repeat' constructor) (IntsAre.ofCarried hc) ?_ (by rw [sizeLine_eq]; decide)
  intro h9 F9 N9 hi9
  k_steps
  refine noth_end (k := 0) hret hi9 (by assumption) ?_
  intro q hq
  rename News h₀ _ _ _ => kN
  refine kN q ?_
  rcases List.mem_append.mp hq with h | h
  · rw [List.mem_singleton.mp h]; exact .head _
  · simp only [List.mem_cons, h, or_true]
end
section

inductive SevAre (tl : List (Addr × Obj)) : List Value → List (Int × Str) → Prop
  | nil : SevAre tl [] []
  | cons {a : Addr} {c : Int} {x : Str} {u1 u2 : Tok} {vs : List Value} {l : List (Int × Str)} : (a, tup [.int c u1, .str x u2]) ∈ tl → SevAre tl vs l → SevAre tl (Value.ref a :: vs) ((c, x) :: l)
theorem SevAre.get {tl : List (Addr × Obj)} {vs : List Value} {l : List (Int × Str)} (h : SevAre tl vs l) : ∀ (i : Nat) (c : Int) (x : Str), l[i]? = some (c, x) → ∃ a u1 u2, vs[i]? = some (Value.ref a) ∧ (a, tup [.int c u1, .str x u2]) ∈ tl := by
  induction h with
  | nil => intro i c x h; simp at h
  | cons hm _ ih =>
    intro i c x h
    cases i with
    | zero => cases h; exact ⟨_, _, _, rfl, hm⟩
    | succ i => exact ih i c x (by simpa using h)
noncomputable def sevL : List (Int × Str) := [(223, Str.ofString "ss"), (8481, Str.ofString "tel"), (64259, Str.ofString "ffi"), (890, ⟨#[32, 953]⟩), (13255, Str.ofString "co."), (329, ⟨#[700, 110]⟩), (13254, ⟨#[99, 8725, 107, 103]⟩), (13169, Str.ofString "hpa"), (8451, ⟨#[176, 99]⟩), (8018, Str.ofString (String.ofList [Char.ofNat 965, Char.ofNat 787, Char.ofNat 768])), (383, Str.ofString "s")]
set_option maxHeartbeats 4000000 in
theorem c_sev (w : World) : ConN w 140 [] 1 16 (fun v tl => ∃ D vs n, v = .ref D ∧ SevAre tl vs sevL ∧ (D, ({ cls := .type "list", data := .seq vs.toArray n } : Obj)) ∈ tl) := by
  intro p loose mean mg mb dp un gd cn cs a ccd cl outer A₀ base h₀ L m news s Q E B F X N T hk hd hu hret
  (refine wpAny_call ?_; k_dflt cell_enter; (try dsimp only [bd3, bd6, bd8, bd9, bd12, bd14, bd16, bd17, bd18, bd19, bd20, bd21, bd22, bd23, ar3, ar6, ar8, ar9, ar12, ar14, ar16, ar17, ar18, ar19, ar20, ar21, ar22, ar23, sc3, sc6, sc8, sc9, sc12, sc14, sc16, sc17, sc18, sc19, sc20, sc21, sc22, sc23] at *); (try simp only [List.map_cons, List.map_nil, List.nil_append, List.append_nil, List.cons_append] at *); (refine let_env ?_); intro A1 e1)
  k_steps
  rename News _ _ _ _ => N2
  refine hret _ [_, _, _, _, _, _, _, _, _, _, _, _] _ _ ?_ (by assumption) N2
  refine ⟨_, _, _, rfl, ?_, .head _⟩
  unfold sevL
  have e1 : Str.ofString " ι" = ⟨#[32, 953]⟩ := by decide +kernel
  have e2 : Str.ofString "ʼn" = ⟨#[700, 110]⟩ := by decide +kernel
  have e3 : Str.ofString "c∕kg" = ⟨#[99, 8725, 107, 103]⟩ := by decide +kernel
  have e4 : Str.ofString "°c" = ⟨#[176, 99]⟩ := by decide +kernel
  rw [← e1, ← e2, ← e3, ← e4]
  repeat' (first | exact .nil | (refine .cons (by k_mem) ?_))
end
section

noncomputable def prep (x : List Nat) : List Nat := (x.filter fun c => !isB1 c).flatMap fun c => (b3 c).cps.toList
theorem filter_snoc (pre : List Nat) (c : Nat) : ((pre ++ [c]).filter fun c => !isB1 c).map b3 = (pre.filter fun c => !isB1 c).map b3 ++ (if isB1 c then [] else [b3 c]) := by
  rw [List.filter_append, List.map_append]
  cases h : isB1 c <;> simp [h]
set_option maxHeartbeats 4000000 in
theorem c_prep (w : World) (x : Str) (t : Tok) (hx : ∀ c ∈ x.cps.toList, c < 1114112) (hz : x.length ≤ 1000) : ConS w 159 [.str x t] 2 16 ⟨(prep x.cps.toList).toArray⟩ := by
  intro p loose mean mg mb dp un gd cn cs a ccd cl outer A₀ base h₀ L m news s Q E B F X N T hk hpre hd hu hret
  (refine wpAny_call ?_; k_dflt cell_enter; (try dsimp only [bd3, bd6, bd8, bd9, bd12, bd14, bd16, bd17, bd18, bd19, bd20, bd21, bd22, bd23, ar3, ar6, ar8, ar9, ar12, ar14, ar16, ar17, ar18, ar19, ar20, ar21, ar22, ar23, sc3, sc6, sc8, sc9, sc12, sc14, sc16, sc17, sc18, sc19, sc20, sc21, sc22, sc23] at *); (try simp only [List.map_cons, List.map_nil, List.nil_append, List.append_nil, List.cons_append] at *); (refine let_env ?_); intro A1 e1)
  (repeat' (first | (k_unfold; (try dsimp only)) | (k_end; wrow_close) | ((with_reducible show wpAny _ _ (eval (PySem.Expr.ListComp _ _ _ _) _) _ _ _); (k_here; k_dflt (refine' comp_ST ?c0 ?c1 ?c2 ?c3 ?c4 ?c5 ?_; (case c0 => k_asm); (case c1 => with_unfolding_all rfl); (case c2 => decide); (case c3 => rfl); (case c4 => decide); (case c5 => rfl)))) | walk1 | (dsimp only; first | ((with_reducible show wpAny _ _ (eval (PySem.Expr.ListComp _ _ _ _) _) _ _ _); (k_here; k_dflt (refine' comp_ST ?c0 ?c1 ?c2 ?c3 ?c4 ?c5 ?_; (case c0 => k_asm); (case c1 => with_unfolding_all rfl); (case c2 => decide); (case c3 => rfl); (case c4 => decide); (case c5 => rfl)))) | walk1) | (leave1; walk_say "STEP leave1"; try dsimp only) | fail "no step"))
  rename_i g1 L1 h1 FG1 N1 B1 X1 T1 F1
  have hz' : x.cps.toList.length ≤ 1000 := by simpa [PySem.Str.length] using hz
  refine ⟨x, t, _, rfl, rfl, by assumption, by assumption, by rw [sizeLine_eq]; unfold PySem.Str.length at hz; omega, fun s₂ ⟨h, e⟩ => ?_⟩
  subst e
  refine rest_T x.cps.toList (fun c v => ∃ u, v = .str ⟨#[c]⟩ u) (fun pre ys => StrsAre ys ((pre.filter fun c => !isB1 c).map b3)) trivial (sign_items x) .nil ?_ ?_
  · intro pre c post v ys I oI C oC D m₂ h tk E' he hI hR hC hm F N off ne
    obtain ⟨u, rfl⟩ := hI
    have hc : c < 1114112 := hx c (by rw [he]; simp)
    cases hb : isB1 c
    · have e : ((pre ++ [c]).filter fun c => !isB1 c).map b3 = (pre.filter fun c => !isB1 c).map b3 ++ [b3 c] := by rw [filter_snoc, hb]; rfl
      (repeat' (first | (k_unfold; (try dsimp only)) | (k_end; wrow_close) | (k_here; (with_reducible show wpAny _ _ (call (Value.ref 133) [Value.str _ _]) _ _ _); k_dflt (refine' con_useS (c_b3 _ _ _ ?kc) ?k1 ?k2 ?k3 ?k4 ?k5 ?k6 ?k7 ?k8 ?_; ((case k1 => k_asm); (case k2 => k_asm); (case k3 => k_asm); (case k4 => k_asm); (case k5 => k_asm); (case k6 => exact rfl); (case k7 => ktr_room); (case k8 => ktr_units)); (case kc => assumption)); intro u9 h9 tk9 F9 N9) | (k_here; (with_reducible show wpAny _ _ (call (Value.ref 87) [Value.str _ _]) _ _ _); k_dflt (refine' con_useB (c_b1 _ _ _ ?kc) ?k1 ?k2 ?k3 ?k4 ?k5 ?k6 ?k7 ?k8 ?_; ((case k1 => k_asm); (case k2 => k_asm); (case k3 => k_asm); (case k4 => k_asm); (case k5 => k_asm); (case k6 => exact rfl); (case k7 => ktr_room); (case k8 => ktr_units)); (case kc => assumption)); intro h9 tk9 F9 N9) | walk1 | (dsimp only; first | (k_here; (with_reducible show wpAny _ _ (call (Value.ref 133) [Value.str _ _]) _ _ _); k_dflt (refine' con_useS (c_b3 _ _ _ ?kc) ?k1 ?k2 ?k3 ?k4 ?k5 ?k6 ?k7 ?k8 ?_; ((case k1 => k_asm); (case k2 => k_asm); (case k3 => k_asm); (case k4 => k_asm); (case k5 => k_asm); (case k6 => exact rfl); (case k7 => ktr_room); (case k8 => ktr_units)); (case kc => assumption)); intro u9 h9 tk9 F9 N9) | (k_here; (with_reducible show wpAny _ _ (call (Value.ref 87) [Value.str _ _]) _ _ _); k_dflt (refine' con_useB (c_b1 _ _ _ ?kc) ?k1 ?k2 ?k3 ?k4 ?k5 ?k6 ?k7 ?k8 ?_; ((case k1 => k_asm); (case k2 => k_asm); (case k3 => k_asm); (case k4 => k_asm); (case k5 => k_asm); (case k6 => exact rfl); (case k7 => ktr_room); (case k8 => ktr_units)); (case kc => assumption)); intro h9 tk9 F9 N9) | walk1) | (leave1; walk_say "STEP leave1"; try dsimp only) | fail "no step"))
      exact ⟨_, _, news, rfl, by assumption, by assumption, off, rfl, by rw [e]; exact strs_snoc hR⟩
    · have e : ((pre ++ [c]).filter fun c => !isB1 c).map b3 = (pre.filter fun c => !isB1 c).map b3 := by rw [filter_snoc, hb]; simp
      (repeat' (first | (k_unfold; (try dsimp only)) | (k_end; wrow_close) | (k_here; (with_reducible show wpAny _ _ (call (Value.ref 87) [Value.str _ _]) _ _ _); k_dflt (refine' con_useB (c_b1 _ _ _ ?kc) ?k1 ?k2 ?k3 ?k4 ?k5 ?k6 ?k7 ?k8 ?_; ((case k1 => k_asm); (case k2 => k_asm); (case k3 => k_asm); (case k4 => k_asm); (case k5 => k_asm); (case k6 => exact rfl); (case k7 => ktr_room); (case k8 => ktr_units)); (case kc => assumption)); intro h9 tk9 F9 N9) | walk1 | (dsimp only; first | (k_here; (with_reducible show wpAny _ _ (call (Value.ref 87) [Value.str _ _]) _ _ _); k_dflt (refine' con_useB (c_b1 _ _ _ ?kc) ?k1 ?k2 ?k3 ?k4 ?k5 ?k6 ?k7 ?k8 ?_; ((case k1 => k_asm); (case k2 => k_asm); (case k3 => k_asm); (case k4 => k_asm); (case k5 => k_asm); (case k6 => exact rfl); (case k7 => ktr_room); (case k8 => ktr_units)); (case kc => assumption)); intro h9 tk9 F9 N9) | walk1) | (leave1; walk_say "STEP leave1"; try dsimp only) | fail "no step"))
      exact ⟨_, _, news, rfl, by assumption, by assumption, off, rfl, by rw [e]; exact hR⟩
  · intro ys hR D h' tk' F' N' o1
    k_steps
    have hw : (((x.cps.toList.filter fun c => !isB1 c).map b3).map (·.length)).sum + ((x.cps.toList.filter fun c => !isB1 c).map b3).length ≤ 1048576 := by
      have h1 := sum_le (f := (·.length)) (k := 4) (l := (x.cps.toList.filter fun c => !isB1 c).map b3) fun y hy => by
        obtain ⟨c, _, rfl⟩ := List.mem_map.mp hy
        exact b3_short c
      have h2 : ((x.cps.toList.filter fun c => !isB1 c).map b3).length ≤ 1000 := by
        rw [List.length_map]
        exact Nat.le_trans (List.length_filter_le _ _) hz'
      omega
    refine join0 (news_list N' (.head _)) (by simpa using hR) hw ?_
    intro t9 k9
    k_steps
    exact con_endS (by unfold cat prep; rw [List.flatMap_map]) hret (by assumption) (news_drop (tl := [_]) (by assumption))
end
section

theorem call_tree {prog : Program} {w : World} {A : Around} {E : Value → Shared → Prop} {s : Shared} {T : String} {name : Str} {id : String} {B : Builtin} {self : Value} {rest : List Value} {Q : Value → Shared → Prop} (slot : Slot T name id) (hT : s.TypeIs self T)
    (entry : entryFor table id = some B) (args : argsOk id ⟨self :: rest, []⟩) (h : wpAny (model prog w) A.in1 (B ⟨self :: rest, []⟩) (fun fin s' => ∃ v, fin = .done (.ret v) ∧ Q v s') E s) :
    wpAny (model prog w) A (call (.builtin id) (self :: rest)) Q E s :=
  call_meetsIn slot hT entry args (MeetsIn.of_wp (S := fun A R s => wpAny (model prog w) A.in1 (B ⟨self :: rest, []⟩) (fun fin s' => ∃ v, fin = .done (.ret v) ∧ R (.ok (.ret v)) s') (fun e s' => R (.error e) s') s) fun _ _ _ h => h) h
noncomputable def isSpec (c : Nat) : Bool := specials.contains (c : Int)
noncomputable def esc (c : Nat) : List Nat := if isSpec c then [92, c] else [c]
theorem map45 {w : World} {h : Heap} (X : (K w.params).In h) : h.MapOf (intKind PySem.Challenge.pw_rx0107_01 w) 45 (fun k => findBy Value.isInt es45.toArray k) := by
  refine ⟨ob45, es45.toArray, 24, X 45 _ rfl, ⟨rfl, rfl, rfl⟩, rfl, ?_, fun _ => rfl⟩
  have key : ∀ (l : List Int) (t : Tok), ∀ e ∈ ents45 t l, ∃ k, Value.isInt k e.key = true ∧ e.hash = hashInt k := by
    intro l
    induction l with
    | nil => intro t e he; cases he
    | cons kv r ih =>
      intro t e he
      rcases List.mem_cons.mp he with rfl | he
      · exact ⟨kv, by simp [Value.isInt], rfl⟩
      · exact ih _ e he
  intro e he
  exact key _ _ e (by simpa [es45] using he)
theorem val45 (c : Nat) : (isSpec c = true ∧ ∃ u, findBy Value.isInt es45.toArray (c : Int) = some (.str ⟨#[92, c]⟩ u)) ∨ (isSpec c = false ∧ findBy Value.isInt es45.toArray (c : Int) = none) := by
  have key : ∀ (l : List Int) (t : Tok), (l.contains (c : Int) = true ∧ ∃ u e, (ents45 t l).find? (fun e => Value.isInt c e.key) = some e ∧ e.val = .str ⟨#[92, c]⟩ u) ∨ (l.contains (c : Int) = false ∧ (ents45 t l).find? (fun e => Value.isInt c e.key) = none) := by
    intro l
    induction l with
    | nil => intro t; exact .inr ⟨rfl, rfl⟩
    | cons k r ih =>
      intro t
      unfold ents45
      by_cases hc : k = c
      · subst hc
        refine .inl ⟨by simp, t + 4, _, List.find?_cons_of_pos (by simp [Value.isInt]), rfl⟩
      · rw [List.find?_cons_of_neg (by simp [Value.isInt, hc])]
        have e : (k :: r).contains (c : Int) = r.contains (c : Int) := by
          rw [List.contains_cons]
          have : ((c : Int) == k) = false := by simp; omega
          rw [this, Bool.false_or]
        rw [e]
        exact ih (t + 6)
  unfold findBy es45
  rw [List.find?_toArray]
  rcases key specials 334 with ⟨a, u, e, b, d⟩ | ⟨a, b⟩
  · exact .inl ⟨a, u, by rw [b]; exact congrArg some d⟩
  · exact .inr ⟨a, by rw [b]; rfl⟩
theorem key_lookup : isSubtype (.type "KeyError") (.type "LookupError") = pure true := by rw [isSubtype_type]; kernel_rfl
section
variable {w : World} {A : Around} {E : Value → Shared → Prop} {s : Shared}
open PySem.Builtin PySem.Builtin.Str
theorem look45 {c : Nat} {Q : Mapped → Shared → Prop} (hh : A.handled = none) (X : (K w.params).In s.heap)
    (h1 : isSpec c = true → ∀ tk, Q (.text ⟨#[92, c]⟩) { s with toks := tk })
    (h2 : isSpec c = false → ∀ h' tk, (∀ b o, s.heap.get? b = some o → h'.get? b = some o) → Q .keep { s with heap := h', toks := tk }) :
    wpAny (model PySem.Challenge.pw_rx0107_01 w) A (tableLookup (.ref 45) c) Q E s := by
  have hm := map45 X
  unfold tableLookup
  refine wpAny_bind (wpAny_attempt (wpAny_bind (wpAny_bind (wpAny_fresh (wpAny_pure ?_)))))
  rcases val45 c with ⟨a, u, e⟩ | ⟨a, e⟩
  · refine wpAny_getItem_of (s := { s with toks := s.toks + 1 }) (intKind_is _ _ (c : Int) _) hm e ?_
    refine wpAny_bind (wpAny_pure ?_)
    refine wpAny_bind (wpAny_pure ?_)
    exact wpAny_pure (h1 a _)
  · refine wpAny_getItem_missing_of (s := { s with toks := s.toks + 1 }) (intKind_is _ _ (c : Int) _) rfl hh hm e ?_
    intro h' ex nx
    obtain ⟨ob, t, he, hc, hd⟩ := nx.there
    refine wpAny_bind (wpAny_isInstance ⟨ob, he, hc⟩ key_lookup ?_)
    exact wpAny_bind (wpAny_rule (wpAny_pure (h2 a _ _ nx.keeps)))
theorem tr45 {c : Nat} {t : Tok} {Q : Value → Shared → Prop} (hh : A.handled = none) (X : (K w.params).In s.heap)
    (h : ∀ u h' tk, (∀ b o, s.heap.get? b = some o → h'.get? b = some o) → Q (.str ⟨(esc c).toArray⟩ u) { s with heap := h', toks := tk }) :
    wpAny (model PySem.Challenge.pw_rx0107_01 w) A (call (.builtin "str.translate") [.str ⟨#[c]⟩ t, .ref 45]) Q E s := by
  refine call_tree PySem.F.slot_str_translate (typeIs_str _ _ _) PySem.F.entry_str_translate (PySem.F.args_str_translate_2 _ _) ?_
  unfold «str.translate»
  rw [show strOneArg "translate" ⟨[.str ⟨#[c]⟩ t, .ref 45], []⟩ = pure (.str ⟨#[c]⟩ t, ⟨#[c]⟩, .ref 45) from rfl]
  refine wpAny_bind (wpAny_pure ?_)
  have ht0 : tooLong 0 = false := by decide
  have ht1 : tooLong 1 = false := by decide
  have ht2 : tooLong 2 = false := by decide
  have hl : ((⟨#[c]⟩ : Str).length == 0) = false := rfl
  have ha : ((⟨#[c]⟩ : Str).cps.all fun x => decide (x < 128)) = decide (c < 128) := by simp
  dsimp only
  rw [hl, ha]
  simp only [List.forIn_toArray, List.forIn_cons, List.forIn_nil, Bool.false_eq_true, if_false, ht0, List.lookup_nil]
  have h2 : ((⟨#[92, c]⟩ : Str).length == 1) = false := rfl
  have h3 : (⟨#[92, c]⟩ : Str).length = 2 := rfl
  by_cases hc : c < 128
  · simp only [hc, decide_true, if_true]
    refine wpAny_bind (wpAny_bind (wpAny_bind ?_))
    refine look45 hh X (fun hs tk => ?_) (fun hs h' tk hk => ?_)
    · simp only [h2, Bool.false_and, Bool.false_eq_true, if_false]
      refine wpAny_bind (wpAny_pure ?_)
      refine wpAny_bind (wpAny_rule ?_)
      refine wpAny_bind (look45 hh X (fun hs' tk' => ?_) (fun hs' => by rw [hs] at hs'; cases hs'))
      refine wpAny_pure (wpAny_pure ?_)
      simp only [h3, Nat.zero_add, ht2, Bool.false_eq_true, if_false]
      refine wpAny_bind (wpAny_mkStr ?_ (by show 2 ≤ sizeLine; rw [sizeLine_eq]; decide))
      refine wpAny_pure ⟨_, rfl, ?_⟩
      have q := h tk' s.heap (tk' + 1) (fun _ _ e => e)
      unfold esc at q
      rw [if_pos hs] at q
      exact q
    · refine wpAny_bind (wpAny_pure ?_)
      refine wpAny_pure (wpAny_pure ?_)
      simp only [Nat.zero_add, ht1, Bool.false_eq_true, if_false]
      refine wpAny_bind (wpAny_mkStr ?_ (by show 1 ≤ sizeLine; rw [sizeLine_eq]; decide))
      refine wpAny_pure ⟨_, rfl, ?_⟩
      have q := h tk h' (tk + 1) hk
      unfold esc at q
      rw [if_neg (by rw [hs]; decide)] at q
      exact q
  · simp only [hc, decide_false, Bool.false_eq_true, if_false]
    refine wpAny_bind (wpAny_bind (wpAny_bind ?_))
    refine look45 hh X (fun hs tk => ?_) (fun hs h' tk hk => ?_)
    · refine wpAny_pure (wpAny_pure ?_)
      simp only [h3, Nat.zero_add, ht2, Bool.false_eq_true, if_false]
      refine wpAny_bind (wpAny_mkStr ?_ (by show 2 ≤ sizeLine; rw [sizeLine_eq]; decide))
      refine wpAny_pure ⟨_, rfl, ?_⟩
      have q := h tk s.heap (tk + 1) (fun _ _ e => e)
      unfold esc at q
      rw [if_pos hs] at q
      exact q
    · refine wpAny_pure (wpAny_pure ?_)
      simp only [Nat.zero_add, ht1, Bool.false_eq_true, if_false]
      refine wpAny_bind (wpAny_mkStr ?_ (by show 1 ≤ sizeLine; rw [sizeLine_eq]; decide))
      refine wpAny_pure ⟨_, rfl, ?_⟩
      have q := h tk h' (tk + 1) hk
      unfold esc at q
      rw [if_neg (by rw [hs]; decide)] at q
      exact q
end
theorem fr_grown {h₀ h h' : Heap} {L : Addr} {m : Str → Option Value} (F : Fr h₀ L h m) (k : ∀ b o, h.get? b = some o → h'.get? b = some o) : Fr h₀ L h' m := F.keeps k
theorem tr45K {w : World} {A : Around} {E : Value → Shared → Prop} {s : Shared} {c : Nat} {t : Tok} {h₀ : Heap} {L : Addr} {m : Str → Option Value} {news : List (Addr × Obj)} {Q : Value → Shared → Prop} (hh : A.handled = none) (F : Fr h₀ L s.heap m) (X : (K w.params).In h₀) (N : News h₀ L s.heap news)
    (h : ∀ u h' tk, Fr h₀ L h' m → News h₀ L h' news → Q (.str ⟨(esc c).toArray⟩ u) { s with heap := h', toks := tk }) :
    wpAny (model PySem.Challenge.pw_rx0107_01 w) A (call (.builtin "str.translate") [.str ⟨#[c]⟩ t, .ref 45]) Q E s :=
  tr45 hh (X.keeps F.keep) fun u h' tk k => h u h' tk (F.keeps k) (N.grown k)
set_option maxHeartbeats 4000000 in
theorem c_esc (w : World) (c : Nat) (t : Tok) : ConS w 55 [.str ⟨#[c]⟩ t] 1 16 ⟨(esc c).toArray⟩ := by
  intro p loose mean mg mb dp un gd cn cs a ccd cl outer A₀ base h₀ L m news s Q E B F X N T hk hpre hd hu hret
  (refine wpAny_call ?_; k_dflt cell_enter; (try dsimp only [bd3, bd6, bd8, bd9, bd12, bd14, bd16, bd17, bd18, bd19, bd20, bd21, bd22, bd23, ar3, ar6, ar8, ar9, ar12, ar14, ar16, ar17, ar18, ar19, ar20, ar21, ar22, ar23, sc3, sc6, sc8, sc9, sc12, sc14, sc16, sc17, sc18, sc19, sc20, sc21, sc22, sc23] at *); (try simp only [List.map_cons, List.map_nil, List.nil_append, List.append_nil, List.cons_append] at *); (refine let_env ?_); intro A1 e1)
  (repeat' (first | (k_unfold; (try dsimp only)) | (k_end; wrow_close) | ((with_reducible show wpAny _ _ (call (Value.builtin "str.translate") _) _ _ _); (k_here; k_dflt (refine' tr45K ?k1 ?k2 ?k3 ?k4 ?_; (case k1 => exact rfl); (case k2 => k_asm); (case k3 => k_asm); (case k4 => k_asm)); intro u9 h9 tk9 F9 N9)) | (k_here; (with_reducible show wpAny _ _ (getMethod (Value.str _ _) (Str.ofString "translate") _) _ _ _); k_dflt (with_reducible refine GM.of (.str _ _) (typeIs_str _ _ _) PySem.F.slot_str_translate PySem.F.type_str_translate GM.noRef ?_)) | walk1 | (dsimp only; first | ((with_reducible show wpAny _ _ (call (Value.builtin "str.translate") _) _ _ _); (k_here; k_dflt (refine' tr45K ?k1 ?k2 ?k3 ?k4 ?_; (case k1 => exact rfl); (case k2 => k_asm); (case k3 => k_asm); (case k4 => k_asm)); intro u9 h9 tk9 F9 N9)) | (k_here; (with_reducible show wpAny _ _ (getMethod (Value.str _ _) (Str.ofString "translate") _) _ _ _); k_dflt (with_reducible refine GM.of (.str _ _) (typeIs_str _ _ _) PySem.F.slot_str_translate PySem.F.type_str_translate GM.noRef ?_)) | walk1) | (leave1; walk_say "STEP leave1"; try dsimp only) | fail "no step"))
  exact con_endS rfl hret (by assumption) (by assumption)
end
section

noncomputable def StopP (P : Prop) : Prop := P
theorem stopP {P : Prop} (h : StopP P) : P := h
structure Raw8 (x : Int) (g : Nat) : Prop where
  e : x = (g : Int)
  l : 0 ≤ x
  u : x ≤ 12
theorem fresh8 {x : Int} {g : Nat} (h : Raw8 x g) : ∃ z : Int, 119808 + 52 * x = z ∧ Box (z = 119808 + 52 * (g : Int) ∧ g ≤ 12) :=
  ⟨_, rfl, ⟨by rw [h.e], by have := h.e; have := h.u; omega⟩⟩
section
variable {prog : Program} {w : World} {A : Around} {E : Value → Shared → Prop} {s : Shared}
theorem spliced_const {env : Env} {c : Const} {ck : Nat} {cp : Pos} {rest : List PySem.Expr} {pos : Pos} {Q : List Value → Shared → Prop}
    (h : wpAny (model prog w) A (eval (.Constant c ck cp) env) (fun v s₁ => wpAny (model prog w) A (spliced (backTo pos (starEach rest env))) (fun vs s₂ => Q (v :: vs) s₂) E s₁) E s) :
    wpAny (model prog w) A (spliced (backTo pos (starEach (.Constant c ck cp :: rest) env))) Q E s := PyProof.Rows.spliced_more h rfl
theorem add_c8 {x : Int} {g : Nat} {t u : Tok} {Q : Value → Shared → Prop} (hr : Raw8 x g) (h : ∀ z : Int, Box (z = 119808 + 52 * (g : Int) ∧ g ≤ 12) → Q (.int z s.toks) { s with toks := s.toks + 1 }) :
    wpAny (model prog w) A (binaryOp .Add (.int 119808 t) (.int (52 * x) u)) Q E s := by
  obtain ⟨z, hz, hb⟩ := fresh8 hr
  refine add_int ?_
  rw [hz]
  exact h z hb
end
theorem news_tl9 {h₀ h : Heap} {L : Addr} {p : Addr × Obj} {news : List (Addr × Obj)} (N : News h₀ L h (p :: news)) : News h₀ L h news := fun q hq => N q (.tail _ hq)
theorem item_tupI_tk {prog : Program} {w : World} {A : Around} {E : Value → Shared → Prop} {s : Shared} {h₀ h' : Heap} {L : Addr} {news : List (Addr × Obj)} {tk : Nat} {value slice : PySem.Expr} {a : Addr} {vs : List Value} {l : List Int} {k : Int} {u : Tok} {Q : Value → Shared → Prop} (N : News h₀ L h' news) (hm : (a, tup vs) ∈ news) (hi : IntsAre vs l) (h0 : 0 ≤ k) (h1 : k < l.length) (h2 : k < 2 ^ 62)
    (h : ∀ x u tk', l[k.toNat]? = some x → Q (.int x u) { s with heap := h', toks := tk' })
    (hs : subscripted slice false (.ref a) (.int k u) = operate [.ref a, .int k u] (getItem (.ref a) (.int k u)) := by with_unfolding_all rfl) :
    wpAny (model prog w) A (subscriptTail value slice (.ref a) (.int k u)) Q E { s with heap := h', toks := tk } :=
  item_tupI (s := { s with heap := h', toks := tk }) N hm hi h0 h1 h2 (fun x u hx => h x u tk hx) hs
theorem bound8 : ([0, 1, 2, 4, 7, 8, 9, 10, 11, 12] : List Int).all (fun x => decide (0 ≤ x) && decide (x ≤ 12)) = true := by decide
theorem val8 (q : Nat) {x : Int} (h : ([0, 1, 2, 4, 7, 8, 9, 10, 11, 12] : List Int)[(Int.fmod (Int.fdiv (q : Int) 26) 10).toNat]? = some x) : x = (([0, 1, 2, 4, 7, 8, 9, 10, 11, 12] : List Nat).getD (q / 26 % 10) 0 : Nat) ∧ 0 ≤ x ∧ x ≤ 12 := by
  rw [show Int.fdiv (q : Int) 26 = ((q / 26 : Nat) : Int) from fd_nat q 26, show Int.fmod ((q / 26 : Nat) : Int) 10 = ((q / 26 % 10 : Nat) : Int) from fm_nat _ 10] at h
  have key : ∀ j : Fin 10, ([0, 1, 2, 4, 7, 8, 9, 10, 11, 12] : List Int)[((j.val : Nat) : Int).toNat]? = some (([0, 1, 2, 4, 7, 8, 9, 10, 11, 12] : List Nat).getD j.val 0 : Nat) := by decide
  have e := key ⟨q / 26 % 10, Nat.mod_lt _ (by decide)⟩
  rw [e] at h
  have hx := Option.some.inj h
  refine ⟨hx.symm, ?_, ?_⟩
  · rw [← hx]; exact Int.natCast_nonneg _
  · rw [← hx]
    have key2 : ∀ j : Fin 10, ((([0, 1, 2, 4, 7, 8, 9, 10, 11, 12] : List Nat).getD j.val 0 : Nat) : Int) ≤ 12 := by decide
    exact key2 ⟨q / 26 % 10, Nat.mod_lt _ (by decide)⟩
noncomputable def sev9T : List (Nat × List Nat) := [(223, [115, 115]), (8481, [116, 101, 108]), (64259, [102, 102, 105]), (890, [32, 953]), (13255, [99, 111, 46]), (329, [700, 110]), (13254, [99, 8725, 107, 103]), (13169, [104, 112, 97]), (8451, [176, 99]), (8018, [965, 787, 768]), (383, [115])]
noncomputable def sev9 (q : Nat) : Nat × List Nat := sev9T.getD (q % 11) (0, [])
structure Raw9 (q : Nat) (c : Int) (x : Str) : Prop where
  g : sevL[(Int.fmod (q : Int) 11).toNat]? = some (c, x)
  e : c = ((sev9 q).1 : Nat)
  ex : x = ⟨(sev9 q).2.toArray⟩
theorem sev9_key : ∀ j : Fin 11, sevL[((j.val : Nat) : Int).toNat]? = some (((sev9T.getD j.val (0, [])).1 : Int), (⟨(sev9T.getD j.val (0, [])).2.toArray⟩ : Str)) := by decide +kernel
theorem sev9_le : ∀ j : Fin 11, (sev9T.getD j.val (0, [])).1 ≤ 65279 := by decide +kernel
theorem le9 {g : Nat} (h : g ≤ 65279) : 0 ≤ (g : Int) ∧ (g : Int) ≤ 65279 := by omega
theorem val9 (q : Nat) : ∃ c x, Raw9 q c x ∧ Box (0 ≤ c ∧ c ≤ 65279) := by
  exact ⟨_, _, ⟨by rw [show Int.fmod (q : Int) 11 = ((q % 11 : Nat) : Int) from fm_nat q 11]; exact sev9_key ⟨q % 11, Nat.mod_lt _ (by decide)⟩, rfl, rfl⟩, ⟨le9 (sev9_le ⟨q % 11, Nat.mod_lt _ (by decide)⟩)⟩⟩
theorem sevL_len : sevL.length = 11 := by decide +kernel
section
variable {prog : Program} {w : World} {A : Around} {E : Value → Shared → Prop} {s : Shared} {h₀ : Heap} {L : Addr} {news : List (Addr × Obj)}
theorem item_sev {value slice : PySem.Expr} {a : Addr} {vs : List Value} {tl : List (Addr × Obj)} {n : Nat} {k : Int} {c : Int} {x : Str} {u : Tok} {Q : Value → Shared → Prop} (N : News h₀ L s.heap news) (hs9 : SevAre tl vs sevL) (hsub : ∀ p ∈ tl, p ∈ news) (hm : (a, ({ cls := .type "list", data := .seq vs.toArray n } : Obj)) ∈ news) (h0 : 0 ≤ k) (h2 : k < 2 ^ 62) (hv : sevL[k.toNat]? = some (c, x))
    (h : ∀ b u1 u2, (b, tup [.int c u1, .str x u2]) ∈ news → Q (.ref b) s)
    (hs : subscripted slice false (.ref a) (.int k u) = operate [.ref a, .int k u] (getItem (.ref a) (.int k u)) := by with_unfolding_all rfl) :
    wpAny (model prog w) A (subscriptTail value slice (.ref a) (.int k u)) Q E s := by
  obtain ⟨b, u1, u2, e, hb⟩ := hs9.get _ c x hv
  exact item_listV N hm h0 h2 e (h b u1 u2 (hsub _ hb)) hs
end
theorem t10_eq (q : Nat) : Txt.item (Str.ofString "a*]?*^&.") (Int.fmod (q : Int) 8) = ⟨#[[97, 42, 93, 63, 42, 94, 38, 46].getD (q % 8) 0]⟩ := by
  rw [show Int.fmod (q : Int) 8 = ((q % 8 : Nat) : Int) from fm_nat q 8]
  have key : ∀ j : Fin 8, Txt.item (Str.ofString "a*]?*^&.") (j.val : Int) = ⟨#[[97, 42, 93, 63, 42, 94, 38, 46].getD j.val 0]⟩ := by decide +kernel
  exact key ⟨q % 8, Nat.mod_lt _ (by decide)⟩
noncomputable def b1N : List Nat := [173, 847, 6150, 6155, 6156, 6157, 8203, 8204, 8205, 8288, 65279, 65024, 65025, 65026, 65027, 65028, 65029, 65030, 65031, 65032, 65033, 65034, 65035, 65036, 65037, 65038, 65039]
structure Raw10 (q : Nat) (x : Int) : Prop where
  e : x = (b1N.getD (q / 8 % 27) 0 : Nat)
  l : 0 ≤ x
  u : x ≤ 65279
theorem b1L_len : b1L.length = 27 := by decide +kernel
theorem le10 {g : Nat} (h : g ≤ 65279) : (g : Int) ≤ 65279 := by omega
theorem val10 (q : Nat) {x : Int} (h : b1L[(Int.fmod (Int.fdiv (q : Int) 8) 27).toNat]? = some x) : Raw10 q x := by
  rw [show Int.fdiv (q : Int) 8 = ((q / 8 : Nat) : Int) from fd_nat q 8, show Int.fmod ((q / 8 : Nat) : Int) 27 = ((q / 8 % 27 : Nat) : Int) from fm_nat _ 27] at h
  have key : ∀ j : Fin 27, b1L[((j.val : Nat) : Int).toNat]? = some ((b1N.getD j.val 0 : Nat) : Int) ∧ b1N.getD j.val 0 ≤ 65279 := by decide +kernel
  have e := key ⟨q / 8 % 27, Nat.mod_lt _ (by decide)⟩
  rw [e.1] at h
  have hx := Option.some.inj h
  exact ⟨hx.symm, by rw [← hx]; exact Int.natCast_nonneg _, by rw [← hx]; exact le10 e.2⟩
theorem chr10 {q : Nat} {x : Int} (h : Raw10 q x) : Box (0 ≤ x ∧ x ≤ 65279) := ⟨⟨h.l, h.u⟩⟩
noncomputable def c13a (q : Nat) : Nat := if q % 1112064 = 45 then 43 else q % 1112064
noncomputable def c13 (q : Nat) : Nat := if c13a q ≥ 55296 then c13a q + 2048 else c13a q
theorem c13_45 {q : Nat} (h : Int.fmod (q : Int) 1112064 = 45) : Int.toNat 43 = c13 q := by
  rw [show Int.fmod (q : Int) 1112064 = ((q % 1112064 : Nat) : Int) from fm_nat q 1112064] at h
  have h : q % 1112064 = 45 := by exact_mod_cast h
  unfold c13 c13a
  rw [h]
  rfl
theorem c13_hi {q : Nat} (h : Int.fmod (q : Int) 1112064 ≠ 45) (h2 : 55296 ≤ Int.fmod (q : Int) 1112064) : (Int.fmod (q : Int) 1112064 + 2048).toNat = c13 q := by
  rw [show Int.fmod (q : Int) 1112064 = ((q % 1112064 : Nat) : Int) from fm_nat q 1112064] at h h2 ⊢
  unfold c13 c13a
  generalize q % 1112064 = g at *
  rw [show (if g = 45 then 43 else g) = g from if_neg (by omega), if_pos (by omega)]
  omega
theorem c13_lo {q : Nat} (h : Int.fmod (q : Int) 1112064 ≠ 45) (h2 : ¬ 55296 ≤ Int.fmod (q : Int) 1112064) : (Int.fmod (q : Int) 1112064).toNat = c13 q := by
  rw [show Int.fmod (q : Int) 1112064 = ((q % 1112064 : Nat) : Int) from fm_nat q 1112064] at h h2 ⊢
  unfold c13 c13a
  generalize q % 1112064 = g at *
  rw [show (if g = 45 then 43 else g) = g from if_neg (by omega), if_neg (by omega)]
  omega
theorem e13_1 {n c : Nat} (hb : isB1 n = true) (e : n = c) : Str.ofString "a" ++ (⟨#[n]⟩ : Str) = ⟨(if isB1 c then [97, c] else [c]).toArray⟩ := by
  subst e
  rw [hb, show Str.ofString "a" = ⟨#[97]⟩ from by decide +kernel]
  rfl
theorem e13_2 {n c : Nat} (hb : isB1 n = true) (e : n = c) : Str.ofString "a" = ⟨(if isB1 c then [97] else (b3 c).cps.toList).toArray⟩ := by
  subst e
  rw [hb, show Str.ofString "a" = ⟨#[97]⟩ from by decide +kernel]
  rfl
theorem e13_3 {n c : Nat} (hb : isB1 n = false) (e : n = c) : (⟨#[n]⟩ : Str) = ⟨(if isB1 c then [97, c] else [c]).toArray⟩ := by
  subst e
  rw [hb]
  rfl
theorem e13_4 {n c : Nat} (hb : isB1 n = false) (e : n = c) : b3 n = ⟨(if isB1 c then [97] else (b3 c).cps.toList).toArray⟩ := by
  subst e
  rw [hb]
  rfl
theorem b1_43 : isB1 43 = false := by decide +kernel
theorem e13_5 {q : Nat} (h : Int.fmod (q : Int) 1112064 = 45) : Str.ofString "+" = ⟨(if isB1 (c13 q) then [97, c13 q] else [c13 q]).toArray⟩ := by
  rw [← c13_45 h, show Int.toNat 43 = 43 from rfl, b1_43, show Str.ofString "+" = ⟨#[43]⟩ from by decide +kernel]
  rfl
theorem e13_6 {q : Nat} (h : Int.fmod (q : Int) 1112064 = 45) : b3 (Int.toNat 43) = ⟨(if isB1 (c13 q) then [97] else (b3 (c13 q)).cps.toList).toArray⟩ :=
  e13_4 b1_43 (c13_45 h)
noncomputable def pcOf (k q : Nat) : List Nat × List Nat :=
  match k with
  | 0 => ([42], [42])
  | 1 => ([63], [63])
  | 2 => ([91], [91])
  | 3 => ([93], [93])
  | 4 => ([33], [33])
  | 5 => ([91, 33], [91, 33])
  | 6 => ([[94, 38, 126, 124, 46, 35, 32, 36, 43, 40, 92].getD (q % 11) 0], [[94, 38, 126, 124, 46, 35, 32, 36, 43, 40, 92].getD (q % 11) 0])
  | 7 => ([65 + q % 26], [97 + q % 26])
  | 8 => ([119808 + 52 * ([0, 1, 2, 4, 7, 8, 9, 10, 11, 12].getD (q / 26 % 10) 0) + q % 26], [97 + q % 26])
  | 9 => ([(sev9 q).1], (sev9 q).2)
  | 10 => ([[97, 42, 93, 63, 42, 94, 38, 46].getD (q % 8) 0, b1N.getD (q / 8 % 27) 0], [[97, 42, 93, 63, 42, 94, 38, 46].getD (q % 8) 0])
  | 11 => ((if q % 2 = 0 then [1040 + q / 2 % 32] else [66560 + q / 2 % 38]), (if q % 2 = 0 then [1072 + q / 2 % 32] else [66600 + q / 2 % 38]))
  | 12 => ([120488 + 58 * (q / 17 % 5) + q % 17], [945 + q % 17])
  | 13 => ((if isB1 (c13 q) then [97, c13 q] else [c13 q]), (if isB1 (c13 q) then [97] else (b3 (c13 q)).cps.toList))
  | 14 => ([91, 65 + q % 26], [91, 97 + q % 26])
  | _ => ([93], [93])
noncomputable def pc (n : Nat) : List Nat × List Nat := pcOf (n % 16) (n / 16)
theorem w16 (k : Nat) (h : k < 16) (n6 : ¬k = 6) (n7 : ¬k = 7) (n8 : ¬k = 8) (n9 : ¬k = 9) (n10 : ¬k = 10) (n11 : ¬k = 11) (n12 : ¬k = 12) (n13 : ¬k = 13) (n14 : ¬k = 14) : k = 0 ∨ k = 1 ∨ k = 2 ∨ k = 3 ∨ k = 4 ∨ k = 5 ∨ k = 15 := by
  rcases lt16 k h with e | e | e | e | e | e | e | e | e | e | e | e | e | e | e | e
  · exact .inl e
  · exact .inr (.inl e)
  · exact .inr (.inr (.inl e))
  · exact .inr (.inr (.inr (.inl e)))
  · exact .inr (.inr (.inr (.inr (.inl e))))
  · exact .inr (.inr (.inr (.inr (.inr (.inl e)))))
  · exact absurd e n6
  · exact absurd e n7
  · exact absurd e n8
  · exact absurd e n9
  · exact absurd e n10
  · exact absurd e n11
  · exact absurd e n12
  · exact absurd e n13
  · exact absurd e n14
  · exact .inr (.inr (.inr (.inr (.inr (.inr e)))))
theorem nk {k c : Nat} (h : ¬k = c) : ((k : Int) == (c : Int)) = false := beq_eq_false_iff_ne.mpr fun e => h (Int.ofNat.inj e)
theorem e12_1 (q : Nat) : (120488 + 58 * Int.fmod (Int.fdiv (q : Int) 17) 5 + Int.fmod (q : Int) 17).toNat = 120488 + 58 * (q / 17 % 5) + q % 17 := by
  rw [show Int.fdiv (q : Int) 17 = ((q / 17 : Nat) : Int) from fd_nat q 17, show Int.fmod ((q / 17 : Nat) : Int) 5 = ((q / 17 % 5 : Nat) : Int) from fm_nat _ 5, show Int.fmod (q : Int) 17 = ((q % 17 : Nat) : Int) from fm_nat q 17]; rfl
theorem e11_1 {q c d n m : Nat} (h : Int.fmod (q : Int) 2 = 0) : (⟨#[(OfNat.ofNat c + Int.fmod (Int.fdiv (q : Int) 2) (OfNat.ofNat n)).toNat]⟩ : Str) = ⟨(if q % 2 = 0 then [c + q / 2 % n] else [d + q / 2 % m]).toArray⟩ := by
  rw [show Int.fmod (q : Int) 2 = ((q % 2 : Nat) : Int) from fm_nat q 2] at h
  rw [if_pos (Int.ofNat.inj h)]; exact one_eqP omB2
theorem e11_2 {q c d n m : Nat} (h : ¬ Int.fmod (q : Int) 2 = 0) : (⟨#[(OfNat.ofNat d + Int.fmod (Int.fdiv (q : Int) 2) (OfNat.ofNat m)).toNat]⟩ : Str) = ⟨(if q % 2 = 0 then [c + q / 2 % n] else [d + q / 2 % m]).toArray⟩ := by
  rw [show Int.fmod (q : Int) 2 = ((q % 2 : Nat) : Int) from fm_nat q 2] at h
  rw [if_neg fun e => h (congrArg Int.ofNat e)]; exact one_eqP omB2
theorem e8_1 {z : Int} {q g : Nat} (h : Box (z = 119808 + 52 * (g : Int) ∧ g ≤ 12)) : (z + Int.fmod (q : Int) 26).toNat = 119808 + 52 * g + q % 26 := by
  rw [h.out.1, show Int.fmod (q : Int) 26 = ((q % 26 : Nat) : Int) from fm_nat q 26]; rfl
set_option maxHeartbeats 16000000 in
theorem c_pieceK (w : World) (n : Int) (t : Tok) (q k : Nat) (hq : q < 62500000) (hk : k < 16) (hk0 : Int.fmod n 16 = (k : Int)) (hq0 : Int.fdiv n 16 = q) (o p : List Nat) (ho : o = (pcOf k q).1) (hp : p = (pcOf k q).2) : ConP w n t o p := by
  intro pg loose mean mg mb dp un gd cn cs a ccd cl outer A₀ base h₀ L m news s Q E B F X N T hk9 hpre hd hu hret
  (refine wpAny_call ?_; k_dflt cell_enter; (try dsimp only [bd3, bd6, bd8, bd9, bd12, bd14, bd16, bd17, bd18, bd19, bd20, bd21, bd22, bd23, ar3, ar6, ar8, ar9, ar12, ar14, ar16, ar17, ar18, ar19, ar20, ar21, ar22, ar23, sc3, sc6, sc8, sc9, sc12, sc14, sc16, sc17, sc18, sc19, sc20, sc21, sc22, sc23] at *); (try simp only [List.map_cons, List.map_nil, List.nil_append, List.append_nil, List.cons_append] at *); (refine let_env ?_); intro A1 e1)
  (repeat' (first | (k_unfold; (try dsimp only)) | (k_end; wrow_close) | ((with_reducible show wpAny _ _ (execs (Stmt.If _ _ _ _ :: _) _) _ _ _); refine stopP ?_) | ((with_reducible show wpAny _ _ (call (Value.builtin "chr") _) _ _ _); k_dflt (refine' chr_of_range omA0 (omA1 (by decide) (by decide)) ?_)) | walk1 | (dsimp only; first | ((with_reducible show wpAny _ _ (execs (Stmt.If _ _ _ _ :: _) _) _ _ _); refine stopP ?_) | ((with_reducible show wpAny _ _ (call (Value.builtin "chr") _) _ _ _); k_dflt (refine' chr_of_range omA0 (omA1 (by decide) (by decide)) ?_)) | walk1) | (leave1; walk_say "STEP leave1"; try dsimp only) | fail "no step"))
  rename_i g L' h2 FG B' X' T' tk1 D' h1 l1 h0 t3 h3 t2 h4 tk2 t1 h5 t0 h9 F9 N9
  have N8 : News g L' h9 news := fun p hp => N9 p (.tail _ hp)
  have ret : ∀ (D : Addr) (x y : Str) (u1 u2 : Tok) (rest : List (Addr × Obj)) (h' : Heap) (tk' : Nat) (m' : Str → Option Value), Fr g L' h' m' → News g L' h' ((D, tup [.str x u1, .str y u2]) :: rest) → x = ⟨o.toArray⟩ → y = ⟨p.toArray⟩ → (∀ q ∈ news, q ∈ rest) → AllLt D news → qk (.ret (.ref D)) { s with heap := h', toks := tk' } := by
    intro D x y u1 u2 rest h' tk' m' F' N' e1 e2 hr hl
    refine leaveK_ F' N' ?_
    intro F2 N2
    exact piece_end hret F2 N2 e1 e2 hr hl
  clear N9 FG h2 l1 hret N F
  clear_value qk ek
  unfold StopP
  by_cases n6 : k = 6
  · subst n6
    have ho : o = [[94, 38, 126, 124, 46, 35, 32, 36, 43, 40, 92].getD (q % 11) 0] := ho
    have hp : p = [[94, 38, 126, 124, 46, 35, 32, 36, 43, 40, 92].getD (q % 11) 0] := hp
    subst ho hp
    refine ifs_tc (tst_eqI F9 (by rfl) (by decide)) ?_
    dsimp only
    k_steps
    all_goals (refine ret _ _ _ _ _ _ _ _ _ (by assumption) (by assumption) ?_ ?_ (by first | exact memTail1 | exact memTail2 | exact memTail3 | exact fun _ h => h | exact memApp | exact memApp1) (by walk_at "mine_lt"))
    all_goals exact t6_eq q
  refine ifs_f0 (tst_eqI F9 (by rfl) (nk n6)) ?_
  dsimp only
  by_cases n7 : k = 7
  · subst n7
    have ho : o = [65 + q % 26] := ho
    have hp : p = [97 + q % 26] := hp
    subst ho hp
    refine ifs_tc (tst_eqI F9 (by rfl) (by decide)) ?_
    dsimp only
    k_steps
    all_goals (refine ret _ _ _ _ _ _ _ _ _ (by assumption) (by assumption) ?_ ?_ (by first | exact memTail1 | exact memTail2 | exact memTail3 | exact fun _ h => h | exact memApp | exact memApp1) (by walk_at "mine_lt"))
    all_goals (first | exact one_eqP omA2 | exact one_eqP (e12_1 q))
  refine ifs_f0 (tst_eqI F9 (by rfl) (nk n7)) ?_
  dsimp only
  by_cases n8 : k = 8
  · subst n8
    have ho : o = [119808 + 52 * ([0, 1, 2, 4, 7, 8, 9, 10, 11, 12].getD (q / 26 % 10) 0) + q % 26] := ho
    have hp : p = [97 + q % 26] := hp
    refine ifs_tc (tst_eqI F9 (by rfl) (by decide)) ?_
    dsimp only
    (repeat' (first | (k_unfold; (try dsimp only)) | (k_end; wrow_close) | ((with_reducible show wpAny _ _ (spliced (backTo _ (starEach (PySem.Expr.Constant _ _ _ :: _) _))) _ _ _); k_dflt (with_reducible refine' spliced_const ?_)) | ((with_reducible show wpAny _ _ (subscriptTail _ _ (Value.ref _) (Value.int _ _)) _ _ _); k_dflt (refine' item_tupI_tk (by k_asm) (by k_mem) (by repeat' constructor) (by exact omD0) (by exact omD2 (by decide) (by decide)) (by exact omD2 (by decide) (by decide)) ?_); intro x9 u9 tk9 hx9; (rename News _ _ _ _ => N9); (have N8 := news_tl9 N9); (clear N9); (have hv9 := val8 _ hx9); (obtain ⟨hv9, hl9, hu9⟩ := hv9); (clear hx9); (have hb8 := Raw8.mk hv9 hl9 hu9); (clear hv9 hl9 hu9); (try dsimp only)) | ((with_reducible show wpAny _ _ (binaryOp Operator.Add (Value.int _ _) (Value.int _ _)) _ _ _); (rename Raw8 _ _ => hr9); (first | with_reducible refine' add_c8 hr9 ?_ | k_dflt refine' add_c8 hr9 ?_); (clear hr9); (intro z9 hb9); (try dsimp only)) | ((with_reducible show wpAny _ _ (call (Value.builtin "chr") _) _ _ _); k_dflt (refine' chr_of_range (omE0 hb9) (omE1 hb9 (by decide) (by decide)) ?_)) | walk1 | (dsimp only; first | ((with_reducible show wpAny _ _ (spliced (backTo _ (starEach (PySem.Expr.Constant _ _ _ :: _) _))) _ _ _); k_dflt (with_reducible refine' spliced_const ?_)) | ((with_reducible show wpAny _ _ (subscriptTail _ _ (Value.ref _) (Value.int _ _)) _ _ _); k_dflt (refine' item_tupI_tk (by k_asm) (by k_mem) (by repeat' constructor) (by exact omD0) (by exact omD2 (by decide) (by decide)) (by exact omD2 (by decide) (by decide)) ?_); intro x9 u9 tk9 hx9; (rename News _ _ _ _ => N9); (have N8 := news_tl9 N9); (clear N9); (have hv9 := val8 _ hx9); (obtain ⟨hv9, hl9, hu9⟩ := hv9); (clear hx9); (have hb8 := Raw8.mk hv9 hl9 hu9); (clear hv9 hl9 hu9); (try dsimp only)) | ((with_reducible show wpAny _ _ (binaryOp Operator.Add (Value.int _ _) (Value.int _ _)) _ _ _); (rename Raw8 _ _ => hr9); (first | with_reducible refine' add_c8 hr9 ?_ | k_dflt refine' add_c8 hr9 ?_); (clear hr9); (intro z9 hb9); (try dsimp only)) | ((with_reducible show wpAny _ _ (call (Value.builtin "chr") _) _ _ _); k_dflt (refine' chr_of_range (omE0 hb9) (omE1 hb9 (by decide) (by decide)) ?_)) | walk1) | (leave1; walk_say "STEP leave1"; try dsimp only) | fail "no step"))
    all_goals (refine ret _ _ _ _ _ _ _ _ _ (by assumption) (by assumption) ?_ ?_ (by first | exact memTail1 | exact memTail2 | exact memTail3 | exact fun _ h => h | exact memApp | exact memApp1) (by walk_at "mine_lt"))
    all_goals (subst ho hp)
    · exact one_eqP (e8_1 (by assumption))
    · exact one_eqP omA2
  refine ifs_f0 (tst_eqI F9 (by rfl) (nk n8)) ?_
  dsimp only
  by_cases n9 : k = 9
  · subst n9
    have ho : o = [(sev9 q).1] := ho
    have hp : p = (sev9 q).2 := hp
    subst ho hp
    refine ifs_tc (tst_eqI F9 (by rfl) (by decide)) ?_
    dsimp only
    obtain ⟨cc, xx, hr, hb⟩ := val9 q
    (repeat' (first | (k_unfold; (try dsimp only)) | (k_end; wrow_close) | ((with_reducible show wpAny _ _ (call (Value.ref 140) _) _ _ _); k_dflt (refine' conN_use (c_sev _) (by k_asm) (by k_asm) (by k_asm) (by k_asm) (by k_asm) (by exact rfl) (by ktr_room) (by ktr_units) ?_); intro v9 tl9 h9 tk9 r9 F9 N9; (obtain ⟨D9, vs9, n9, e9, hi9, et9⟩ := r9); subst e9; (try dsimp only)) | ((with_reducible show wpAny _ _ (subscriptTail _ _ (Value.ref _) (Value.int _ _)) _ _ _); (rename Raw9 _ _ _ => hr9); k_dflt (refine' item_sev (by k_asm) (by assumption) (by exact fun _ h => List.mem_append_left _ h) (by (refine List.mem_append_left _ ?_; assumption)) (by exact omC0) (by exact omC2 (by decide) (by decide)) (by exact hr9.g) ?_); intro b9 u8 u9 hm9; (try dsimp only)) | ((with_reducible show wpAny _ _ (call (Value.builtin "chr") _) _ _ _); k_dflt (refine' chr_of_range hb.out.1 (Int.le_trans hb.out.2 (by decide)) ?_)) | walk1 | (dsimp only; first | ((with_reducible show wpAny _ _ (call (Value.ref 140) _) _ _ _); k_dflt (refine' conN_use (c_sev _) (by k_asm) (by k_asm) (by k_asm) (by k_asm) (by k_asm) (by exact rfl) (by ktr_room) (by ktr_units) ?_); intro v9 tl9 h9 tk9 r9 F9 N9; (obtain ⟨D9, vs9, n9, e9, hi9, et9⟩ := r9); subst e9; (try dsimp only)) | ((with_reducible show wpAny _ _ (subscriptTail _ _ (Value.ref _) (Value.int _ _)) _ _ _); (rename Raw9 _ _ _ => hr9); k_dflt (refine' item_sev (by k_asm) (by assumption) (by exact fun _ h => List.mem_append_left _ h) (by (refine List.mem_append_left _ ?_; assumption)) (by exact omC0) (by exact omC2 (by decide) (by decide)) (by exact hr9.g) ?_); intro b9 u8 u9 hm9; (try dsimp only)) | ((with_reducible show wpAny _ _ (call (Value.builtin "chr") _) _ _ _); k_dflt (refine' chr_of_range hb.out.1 (Int.le_trans hb.out.2 (by decide)) ?_)) | walk1) | (leave1; walk_say "STEP leave1"; try dsimp only) | fail "no step"))
    all_goals (refine ret _ _ _ _ _ _ _ _ _ (by assumption) (by assumption) ?_ ?_ (by first | exact memTail1 | exact memTail2 | exact memTail3 | exact fun _ h => h | exact memApp | exact memApp1) (by walk_at "mine_lt"))
    all_goals rename Raw9 _ _ _ => hr9
    all_goals first
      | exact hr9.ex
      | (rw [hr9.e]; rfl)
  refine ifs_f0 (tst_eqI F9 (by rfl) (nk n9)) ?_
  dsimp only
  by_cases n10 : k = 10
  · subst n10
    have ho : o = [[97, 42, 93, 63, 42, 94, 38, 46].getD (q % 8) 0, b1N.getD (q / 8 % 27) 0] := ho
    have hp : p = [[97, 42, 93, 63, 42, 94, 38, 46].getD (q % 8) 0] := hp
    subst ho hp
    refine ifs_tc (tst_eqI F9 (by rfl) (by decide)) ?_
    dsimp only
    (repeat' (first | (k_unfold; (try dsimp only)) | (k_end; wrow_close) | ((with_reducible show wpAny _ _ (call (Value.ref 147) _) _ _ _); k_dflt (refine' conN_use (c_noth _) (by k_asm) (by k_asm) (by k_asm) (by k_asm) (by k_asm) (by exact rfl) (by ktr_room) (by ktr_units) ?_); intro v9 tl9 h9 tk9 r9 F9 N9; (obtain ⟨D9, vs9, n9, e9, hi9, et9⟩ := r9); subst e9; subst et9; (try dsimp only)) | ((with_reducible show wpAny _ _ (subscriptTail _ _ (Value.ref _) (Value.int _ _)) _ _ _); k_dflt (refine' item_listI (by k_asm) (by (first | k_mem | exact List.mem_append_left _ (.head _))) (by assumption) (by exact omD0) (by rw [b1L_len]; exact omD2 (by decide) (by decide)) (by exact omD2 (by decide) (by decide)) ?_); intro x9 u9 hx9; (have hv9 := val10 _ hx9); (clear hx9); (have hb9 := chr10 hv9); (try dsimp only)) | ((with_reducible show wpAny _ _ (call (Value.builtin "chr") _) _ _ _); k_dflt (refine' chr_of_range hb9.out.1 (Int.le_trans hb9.out.2 (by decide)) ?_)) | walk1 | (dsimp only; first | ((with_reducible show wpAny _ _ (call (Value.ref 147) _) _ _ _); k_dflt (refine' conN_use (c_noth _) (by k_asm) (by k_asm) (by k_asm) (by k_asm) (by k_asm) (by exact rfl) (by ktr_room) (by ktr_units) ?_); intro v9 tl9 h9 tk9 r9 F9 N9; (obtain ⟨D9, vs9, n9, e9, hi9, et9⟩ := r9); subst e9; subst et9; (try dsimp only)) | ((with_reducible show wpAny _ _ (subscriptTail _ _ (Value.ref _) (Value.int _ _)) _ _ _); k_dflt (refine' item_listI (by k_asm) (by (first | k_mem | exact List.mem_append_left _ (.head _))) (by assumption) (by exact omD0) (by rw [b1L_len]; exact omD2 (by decide) (by decide)) (by exact omD2 (by decide) (by decide)) ?_); intro x9 u9 hx9; (have hv9 := val10 _ hx9); (clear hx9); (have hb9 := chr10 hv9); (try dsimp only)) | ((with_reducible show wpAny _ _ (call (Value.builtin "chr") _) _ _ _); k_dflt (refine' chr_of_range hb9.out.1 (Int.le_trans hb9.out.2 (by decide)) ?_)) | walk1) | (leave1; walk_say "STEP leave1"; try dsimp only) | fail "no step"))
    all_goals (refine ret _ _ _ _ _ _ _ _ _ (by assumption) (by assumption) ?_ ?_ (by first | exact memTail1 | exact memTail2 | exact memTail3 | exact fun _ h => h | exact memApp | exact memApp1) (by walk_at "mine_lt"))
    · rename Raw10 _ _ => hr9
      rw [t10_eq, hr9.e]
      rfl
    · rw [t10_eq]
  refine ifs_f0 (tst_eqI F9 (by rfl) (nk n10)) ?_
  dsimp only
  by_cases n11 : k = 11
  · subst n11
    have ho : o = (if q % 2 = 0 then [1040 + q / 2 % 32] else [66560 + q / 2 % 38]) := ho
    have hp : p = (if q % 2 = 0 then [1072 + q / 2 % 32] else [66600 + q / 2 % 38]) := hp
    subst ho hp
    refine ifs_tc (tst_eqI F9 (by rfl) (by decide)) ?_
    dsimp only
    (repeat' (first | (k_unfold; (try dsimp only)) | (k_end; wrow_close) | ((with_reducible show wpAny _ _ (call (Value.builtin "chr") _) _ _ _); k_dflt (refine' chr_of_range omB0 (omB1 (by decide) (by decide)) ?_)) | walk1 | (dsimp only; first | ((with_reducible show wpAny _ _ (call (Value.builtin "chr") _) _ _ _); k_dflt (refine' chr_of_range omB0 (omB1 (by decide) (by decide)) ?_)) | walk1) | (leave1; walk_say "STEP leave1"; try dsimp only) | fail "no step"))
    all_goals (refine ret _ _ _ _ _ _ _ _ _ (by assumption) (by assumption) ?_ ?_ (by first | exact memTail1 | exact memTail2 | exact memTail3 | exact fun _ h => h | exact memApp | exact memApp1) (by walk_at "mine_lt"))
    all_goals first | exact e11_1 (by assumption) | exact e11_2 (by assumption)
  refine ifs_f0 (tst_eqI F9 (by rfl) (nk n11)) ?_
  dsimp only
  by_cases n12 : k = 12
  · subst n12
    have ho : o = [120488 + 58 * (q / 17 % 5) + q % 17] := ho
    have hp : p = [945 + q % 17] := hp
    subst ho hp
    refine ifs_tc (tst_eqI F9 (by rfl) (by decide)) ?_
    dsimp only
    (repeat' (first | (k_unfold; (try dsimp only)) | (k_end; wrow_close) | ((with_reducible show wpAny _ _ (call (Value.builtin "chr") _) _ _ _); k_dflt (refine' chr_of_range (by first | exact omA0 | exact omF0) (by first | exact omA1 (by decide) (by decide) | exact omF1 (by decide) (by decide) (by decide)) ?_)) | walk1 | (dsimp only; first | ((with_reducible show wpAny _ _ (call (Value.builtin "chr") _) _ _ _); k_dflt (refine' chr_of_range (by first | exact omA0 | exact omF0) (by first | exact omA1 (by decide) (by decide) | exact omF1 (by decide) (by decide) (by decide)) ?_)) | walk1) | (leave1; walk_say "STEP leave1"; try dsimp only) | fail "no step"))
    all_goals (refine ret _ _ _ _ _ _ _ _ _ (by assumption) (by assumption) ?_ ?_ (by first | exact memTail1 | exact memTail2 | exact memTail3 | exact fun _ h => h | exact memApp | exact memApp1) (by walk_at "mine_lt"))
    all_goals (first | exact one_eqP omA2 | exact one_eqP (e12_1 q))
  refine ifs_f0 (tst_eqI F9 (by rfl) (nk n12)) ?_
  dsimp only
  by_cases n13 : k = 13
  · subst n13
    have ho : o = (if isB1 (c13 q) then [97, c13 q] else [c13 q]) := ho
    have hp : p = (if isB1 (c13 q) then [97] else (b3 (c13 q)).cps.toList) := hp
    subst ho hp
    refine ifs_tc (tst_eqI F9 (by rfl) (by decide)) ?_
    dsimp only
    (repeat' (first | (k_unfold; (try dsimp only)) | (k_end; wrow_close) | ((with_reducible show wpAny _ _ (call (Value.ref 87) [Value.str _ _]) _ _ _); k_dflt (refine' con_useB (c_b1 _ _ _ (by first | decide | exact omG2 (by decide) (by decide) | exact omC3 (by decide) (by decide))) (by k_asm) (by k_asm) (by k_asm) (by k_asm) (by k_asm) (by exact rfl) (by ktr_room) (by ktr_units) ?_); intro h9 tk9 F9 N9) | ((with_reducible show wpAny _ _ (call (Value.ref 133) [Value.str _ _]) _ _ _); k_dflt (refine' con_useS (c_b3 _ _ _ (by first | decide | exact omG2 (by decide) (by decide) | exact omC3 (by decide) (by decide))) (by k_asm) (by k_asm) (by k_asm) (by k_asm) (by k_asm) (by exact rfl) (by ktr_room) (by ktr_units) ?_); intro u9 h9 tk9 F9 N9) | ((with_reducible show wpAny _ _ (call (Value.builtin "chr") _) _ _ _); k_dflt (refine' chr_of_range (by first | decide | exact omC0 | exact omG0) (by first | decide | exact omC1 (by decide) (by decide) | exact omG1 (by decide) (by decide)) ?_)) | walk1 | (dsimp only; first | ((with_reducible show wpAny _ _ (call (Value.ref 87) [Value.str _ _]) _ _ _); k_dflt (refine' con_useB (c_b1 _ _ _ (by first | decide | exact omG2 (by decide) (by decide) | exact omC3 (by decide) (by decide))) (by k_asm) (by k_asm) (by k_asm) (by k_asm) (by k_asm) (by exact rfl) (by ktr_room) (by ktr_units) ?_); intro h9 tk9 F9 N9) | ((with_reducible show wpAny _ _ (call (Value.ref 133) [Value.str _ _]) _ _ _); k_dflt (refine' con_useS (c_b3 _ _ _ (by first | decide | exact omG2 (by decide) (by decide) | exact omC3 (by decide) (by decide))) (by k_asm) (by k_asm) (by k_asm) (by k_asm) (by k_asm) (by exact rfl) (by ktr_room) (by ktr_units) ?_); intro u9 h9 tk9 F9 N9) | ((with_reducible show wpAny _ _ (call (Value.builtin "chr") _) _ _ _); k_dflt (refine' chr_of_range (by first | decide | exact omC0 | exact omG0) (by first | decide | exact omC1 (by decide) (by decide) | exact omG1 (by decide) (by decide)) ?_)) | walk1) | (leave1; walk_say "STEP leave1"; try dsimp only) | fail "no step"))
    all_goals (refine ret _ _ _ _ _ _ _ _ _ (by assumption) (by assumption) ?_ ?_ (by first | exact memTail1 | exact memTail2 | exact memTail3 | exact fun _ h => h | exact memApp | exact memApp1) (by walk_at "mine_lt"))
    all_goals first
      | exact e13_1 (by assumption) (by (first | exact c13_45 (by assumption) | exact c13_hi (by assumption) (by assumption) | exact c13_lo (by assumption) (by assumption)))
      | exact e13_2 (by assumption) (by (first | exact c13_45 (by assumption) | exact c13_hi (by assumption) (by assumption) | exact c13_lo (by assumption) (by assumption)))
      | exact e13_3 (by assumption) (by (first | exact c13_45 (by assumption) | exact c13_hi (by assumption) (by assumption) | exact c13_lo (by assumption) (by assumption)))
      | exact e13_4 (by assumption) (by (first | exact c13_45 (by assumption) | exact c13_hi (by assumption) (by assumption) | exact c13_lo (by assumption) (by assumption)))
      | exact e13_5 (by assumption)
      | exact e13_6 (by assumption)
  refine ifs_f0 (tst_eqI F9 (by rfl) (nk n13)) ?_
  dsimp only
  by_cases n14 : k = 14
  · subst n14
    have ho : o = [91, 65 + q % 26] := ho
    have hp : p = [91, 97 + q % 26] := hp
    subst ho hp
    refine ifs_tc (tst_eqI F9 (by rfl) (by decide)) ?_
    dsimp only
    k_steps
    all_goals (refine ret _ _ _ _ _ _ _ _ _ (by assumption) (by assumption) ?_ ?_ (by first | exact memTail1 | exact memTail2 | exact memTail3 | exact fun _ h => h | exact memApp | exact memApp1) (by walk_at "mine_lt"))
    all_goals exact open_eq omA2
  refine ifs_f0 (tst_eqI F9 (by rfl) (nk n14)) ?_
  dsimp only
  rcases w16 k hk n6 n7 n8 n9 n10 n11 n12 n13 n14 with rfl | rfl | rfl | rfl | rfl | rfl | rfl
  · have ho : o = [42] := ho
    have hp : p = [42] := hp
    subst ho hp
    k_steps
    all_goals (refine ret _ _ _ _ _ _ _ _ _ (by assumption) (by assumption) ?_ ?_ (by first | exact memTail1 | exact memTail2 | exact memTail3 | exact fun _ h => h | exact memApp | exact memApp1) (by walk_at "mine_lt"))
    all_goals decide +kernel
  · have ho : o = [63] := ho
    have hp : p = [63] := hp
    subst ho hp
    k_steps
    all_goals (refine ret _ _ _ _ _ _ _ _ _ (by assumption) (by assumption) ?_ ?_ (by first | exact memTail1 | exact memTail2 | exact memTail3 | exact fun _ h => h | exact memApp | exact memApp1) (by walk_at "mine_lt"))
    all_goals decide +kernel
  · have ho : o = [91] := ho
    have hp : p = [91] := hp
    subst ho hp
    k_steps
    all_goals (refine ret _ _ _ _ _ _ _ _ _ (by assumption) (by assumption) ?_ ?_ (by first | exact memTail1 | exact memTail2 | exact memTail3 | exact fun _ h => h | exact memApp | exact memApp1) (by walk_at "mine_lt"))
    all_goals decide +kernel
  · have ho : o = [93] := ho
    have hp : p = [93] := hp
    subst ho hp
    k_steps
    all_goals (refine ret _ _ _ _ _ _ _ _ _ (by assumption) (by assumption) ?_ ?_ (by first | exact memTail1 | exact memTail2 | exact memTail3 | exact fun _ h => h | exact memApp | exact memApp1) (by walk_at "mine_lt"))
    all_goals decide +kernel
  · have ho : o = [33] := ho
    have hp : p = [33] := hp
    subst ho hp
    k_steps
    all_goals (refine ret _ _ _ _ _ _ _ _ _ (by assumption) (by assumption) ?_ ?_ (by first | exact memTail1 | exact memTail2 | exact memTail3 | exact fun _ h => h | exact memApp | exact memApp1) (by walk_at "mine_lt"))
    all_goals decide +kernel
  · have ho : o = [91, 33] := ho
    have hp : p = [91, 33] := hp
    subst ho hp
    k_steps
    all_goals (refine ret _ _ _ _ _ _ _ _ _ (by assumption) (by assumption) ?_ ?_ (by first | exact memTail1 | exact memTail2 | exact memTail3 | exact fun _ h => h | exact memApp | exact memApp1) (by walk_at "mine_lt"))
    all_goals decide +kernel
  · have ho : o = [93] := ho
    have hp : p = [93] := hp
    subst ho hp
    k_steps
    all_goals (refine ret _ _ _ _ _ _ _ _ _ (by assumption) (by assumption) ?_ ?_ (by first | exact memTail1 | exact memTail2 | exact memTail3 | exact fun _ h => h | exact memApp | exact memApp1) (by walk_at "mine_lt"))
    all_goals decide +kernel
theorem c_piece (w : World) (n : Nat) (t : Tok) (hn : n < 1000000000) : ConP w (n : Int) t (pc n).1 (pc n).2 :=
  c_pieceK w n t (n / 16) (n % 16) (by omega) (Nat.mod_lt _ (by decide)) (fm_nat n 16) (fd_nat n 16) _ _ rfl rfl
end
section

open Sem (wp)
open PySem.Builtin
theorem lk_list_append : typeLookup (.type "list") (Str.ofString "append") = pure (some (.builtin "list.append")) := by rw [typeLookup_type, builtinLookup_eq_fast]; kernel_rfl
theorem slot_md_get : Slot "method_descriptor" "__get__" "method_descriptor.__get__" :=
  .of (owner := "method_descriptor") (n := "__get__") (by rw [typeLookup_type, builtinLookup_eq_fast]; kernel_rfl) (by decide +kernel) (by decide +kernel) (by decide +kernel)
    (by first | exact .inl (by decide +kernel) | exact .inr (by decide +kernel)) (by rw [isSubtype_type]; kernel_rfl)
theorem entry_md_get : entryFor table "method_descriptor.__get__" = some Builtin.«method_descriptor.__get__» := entryFor_of_tree (by kernel_rfl)
theorem args_md_get (a b c : Value) : argsOk "method_descriptor.__get__" ⟨[a, b, c], []⟩ := by unfold argsOk; kernel_rfl
theorem lk_md_set : typeLookup (.type "method_descriptor") (Str.ofString "__set__") = pure none := by rw [typeLookup_type, builtinLookup_eq_fast]; kernel_rfl
theorem lk_md_del : typeLookup (.type "method_descriptor") (Str.ofString "__delete__") = pure none := by rw [typeLookup_type, builtinLookup_eq_fast]; kernel_rfl
theorem owner_list_append : (".".intercalate ("list.append".cutAt '.').dropLast) = "list" := by
  have e0 : "list.append".cutAt '.' = ["list", "append"] := by first | rfl | decide +kernel
  rw [e0]; decide +kernel
theorem sub_list_append_owner : isSubtype (.type "list") (.type (".".intercalate ("list.append".cutAt '.').dropLast)) = pure true := by
  rw [owner_list_append, isSubtype_type]; kernel_rfl
noncomputable def boundO (id : String) (a : Addr) : Obj := { cls := .type "builtin_function_or_method", data := .fields #[.builtin id, .ref a] }
section
variable {prog : Program} {w : World} {A : Around} {E : Value → Shared → Prop} {h : Heap} {g : Array GenState} {d : Drawn} {t : Nat} {os : OsState} {a : Addr} {o : Obj}
theorem md_told : Manifest.toldItsClass.contains "list.append" = false := by decide +kernel
theorem sub_list_list : isSubtype (.type "list") (.type "list") = pure true := by rw [isSubtype_type]; kernel_rfl
theorem append_bind_list {Q : Fin → Shared → Prop} (hx : h.get? a = some o) (hc : o.cls = .type "list") (hq : Q (.done (.ret (.ref h.objs.size))) ⟨h.push (boundO "list.append" a), g, d, t, os⟩) :
    wpAny (model prog w) A (Builtin.«method_descriptor.__get__» ⟨[.builtin "list.append", .ref a, .type "list"], []⟩) Q E ⟨h, g, d, t, os⟩ := by
  have hT : (⟨h, g, d, t, os⟩ : Shared).TypeIs (.ref a) "list" := ⟨_, hx, hc⟩
  unfold Builtin.«method_descriptor.__get__»
  refine wpAny_bind (wpAny_of_eq (a := (.builtin "list.append", some (.ref a), some (.type "list"))) (by rfl) ?_)
  dsimp only
  rw [md_told, if_neg Bool.false_ne_true]
  refine wpAny_bind (wpAny_bind (wpAny_of_eq (a := (Str.ofString "append", Value.type "list")) (by kernel_rfl) ?_))
  dsimp only
  refine wpAny_bind (wpAny_isInstance hT sub_list_list ?_)
  refine wpAny_pure ?_
  refine wpAny_bind (wpAny_newObj_type (wpAny_pure hq))
theorem append_get_list {R : Result → Shared → Prop} (hx : h.get? a = some o) (hc : o.cls = .type "list") (hq : R (.ok (.ret (.ref h.objs.size))) ⟨h.push (boundO "list.append" a), g, d, t, os⟩) :
    codeAny (model prog w) A (.call (.builtin "method_descriptor.__get__") ⟨[.builtin "list.append", .ref a, .type "list"], []⟩) R ⟨h, g, d, t, os⟩ :=
  codeAny_call_builtin slot_md_get.plain entry_md_get (slot_md_get.check _ _ _ _ _ _ _ _ (show (⟨h, g, d, t, os⟩ : Shared).TypeIs (.builtin "list.append") "method_descriptor" from F.type_list_append) (args_md_get _ _ _) (append_bind_list hx hc hq))
theorem append_entry_list {xs : Array Value} {n : Nat} {tk : Tok} {Q : Fin → Shared → Prop} (hx : h.get? a = some { cls := .type "list", data := .seq xs n }) (hq : Q (.done (.ret (.ref h.objs.size))) ⟨h.push (boundO "list.append" a), g, d, t, os⟩) :
    wpAny (model prog w) A (Builtin.«object.__getattribute__» ⟨[.ref a, .str (Str.ofString "append") tk], []⟩) Q E ⟨h, g, d, t, os⟩ := by
  have hT : (⟨h, g, d, t, os⟩ : Shared).TypeIs (.ref a) "list" := ⟨_, hx, rfl⟩
  have hT5 : (⟨h, g, d, t, os⟩ : Shared).TypeIs (.builtin "list.append") "method_descriptor" := F.type_list_append
  have f4 := lk_list_append
  have f5 := F.type_list_append
  have f6 := slot_md_get.lookup
  have f7 := lk_md_set
  have f8 := lk_md_del
  repeat (any_goals (first | assumption | wp_step))
  refine append_get_list hx rfl ?_
  repeat (any_goals (first | assumption | wp_step))
theorem append_call_list {xs : Array Value} {n : Nat} {tk : Tok} {R : Result → Shared → Prop} (hx : h.get? a = some { cls := .type "list", data := .seq xs n }) (hq : R (.ok (.ret (.ref h.objs.size))) ⟨h.push (boundO "list.append" a), g, d, t, os⟩) :
    codeAny (model prog w) A (.call (.builtin "list.__getattribute__") ⟨[.ref a, .str (Str.ofString "append") tk], []⟩) R ⟨h, g, d, t, os⟩ :=
  codeAny_call_builtin F.slot_list_getattribute.plain F.entry_list_ga (F.slot_list_getattribute.check _ _ _ _ _ _ _ _ (show (⟨h, g, d, t, os⟩ : Shared).TypeIs (.ref a) "list" from ⟨_, hx, rfl⟩) (F.args_list_getattribute_2 _ _) (append_entry_list hx hq))
theorem append_by_list {xs : Array Value} {n : Nat} {tk : Tok} {Q : Value → Shared → Prop} (hx : h.get? a = some { cls := .type "list", data := .seq xs n }) (hq : Q (.ref h.objs.size) ⟨h.push (boundO "list.append" a), g, d, t, os⟩) : wpAny (model prog w) A (getAttrBy (.ref a) (.str (Str.ofString "append") tk) true true) Q E ⟨h, g, d, t, os⟩ := by
  have hT : (⟨h, g, d, t, os⟩ : Shared).TypeIs (.ref a) "list" := ⟨_, hx, rfl⟩
  have f2 := F.slot_list_getattribute.lookup
  have f3 := F.slot_list_getattribute.bind (.ref a)
  repeat (any_goals (first | assumption | wp_step))
  refine append_call_list hx ?_
  repeat (any_goals (first | assumption | wp_step))
end
section
variable {prog : Program} {w : World} {A : Around} {E : Value → Shared → Prop} {s : Shared} {h₀ : Heap} {L a : Addr} {m : Str → Option Value} {news : List (Addr × Obj)} {xs : Array Value} {n : Nat} {Q : Value → Shared → Prop}
theorem getattr_append (F : Fr h₀ L s.heap m) (N : News h₀ L s.heap news) (hm : (a, ({ cls := .type "list", data := .seq xs n } : Obj)) ∈ news)
    (h : ∀ q h', Fr h₀ L h' m → News h₀ L h' ((q, boundO "list.append" a) :: news) → (∀ p ∈ news, p.1 < q) → Q (.ref q) { s with heap := h', toks := s.toks + 1 }) :
    wpAny (model prog w) A (getAttr (.ref a) (Str.ofString "append") true) Q E s := by
  obtain ⟨hh, g, d, tk, os⟩ := s
  unfold getAttr
  refine wpAny_bind (wpAny_bind (wpAny_fresh (wpAny_pure ?_)))
  exact append_by_list (N _ hm).1 (h hh.objs.size _ (F.push _) (N.push F _) fun p hp => Heap.lt_size (N p hp).1)
end
section
variable {M : Model} {A : Around} {E : Value → Shared → Prop} {s : Shared} {env : Env} {pos : Pos} {first : List Value} {Q : Value → Shared → Prop} {h₀ : Heap} {L : Addr} {news : List (Addr × Obj)} {id : String} {q a : Addr}
theorem keeps_bound (h : Heap) (X : h.get? q = some (boundO id a)) : ∃ k, (k = Keeper.frame ∨ k = Keeper.machine ∨ k = Keeper.boundFrame) ∧ Looks M h (keeperOf (.ref q)) k :=
  ⟨.machine, .inr (.inl rfl), (Looks.ld (part := none) X).andThen .now⟩
theorem callWith_bound {e : PySem.Expr} {rest : List PySem.Expr} (_N : News h₀ L s.heap news) (_q : (q, boundO id a) ∈ news) (h : wpAny M A (spliced (backTo pos (starEach (e :: rest) env))) (fun vs s₁ => s₁.heap.get? q = some (boundO id a) ∧ wpAny M A (call (.ref q) (first ++ vs)) Q E s₁) E s)
    (he : starEach (e :: rest) env = (false, eval e env) :: starEach rest env := by rfl) (hplain : (backTo pos (starEach rest env)).any (·.1) = false := by rfl) :
    wpAny M A (callWith pos (.ref q) first (backTo pos (starEach (e :: rest) env)) []) Q E s := by
  rw [he] at h ⊢
  exact callWith_of (P := fun h => h.get? q = some (boundO id a)) (by show ((false || (backTo pos (starEach rest env)).any (·.1)) || false) = false; rw [hplain]; rfl) keeps_bound (evalArgs_plain h)
end
end
section

section
variable {prog : Program} {w : World} {A : Around} {E : Value → Shared → Prop} {s : Shared} {Q : Value → Shared → Prop} {q l : Addr} {x : Value} {items : Array Value} {n : Nat}
theorem sub_list_module : isSubtype (.type "list") (.type "module") = pure false := by rw [isSubtype_type]; kernel_rfl
theorem sub_list_type : isSubtype (.type "list") (.type "type") = pure false := by rw [isSubtype_type]; kernel_rfl
theorem check_append {A : Around} {E : Value → Shared → Prop} {s : Shared} {Q : Unit → Shared → Prop} (hl : s.heap.get? l = some { cls := .type "list", data := .seq items n }) (h : Q () s) : wpAny (model prog w) A (checkBoundCall "list.append" ⟨[.ref l, x], []⟩) Q E s := by
  have hT : s.TypeIs (.ref l) "list" := ⟨_, hl, rfl⟩
  unfold checkBoundCall
  have e0 : (Manifest.signature? "list.append").map (fun sig => Bind.checkArgs "list.append" { sig with full := "list.append" } ⟨[.ref l, x], []⟩) = some (pure ()) := by kernel_rfl
  obtain ⟨sig, e1⟩ : ∃ sig, Manifest.signature? "list.append" = some sig := by
    cases e : Manifest.signature? "list.append" with
    | none => rw [e] at e0; cases e0
    | some sig => exact ⟨sig, rfl⟩
  rw [e1] at e0
  have e2 := Option.some.inj e0
  rw [e1]
  have e3 : builtinKind "list.append" = some .method := by kernel_rfl
  rw [e3]
  dsimp only
  rw [if_neg (by decide)]
  refine wpAny_bind (wpAny_isInstance hT sub_list_module ?_)
  rw [if_neg (by decide +kernel)]
  refine wpAny_bind ?_
  refine (Looks.ld (part := some headPart) hl |>.andThen .now : Looks (model prog w) s.heap (isType (.ref l)) false).here ?_
  rw [if_neg Bool.false_ne_true]
  refine wpAny_bind (wpAny_typeOf hT ?_)
  dsimp only
  exact wpAny_of_eq e2 h
theorem bound_append (ho : s.heap.get? q = some (boundO "list.append" l)) (hl : s.heap.get? l = some { cls := .type "list", data := .seq items n })
    (hQ : ∀ h', Heap.SameBut l s.heap h' → h'.get? l = some { cls := .type "list", data := .seq (items.push x) (n + 1) } → Q .none { s with heap := h' }) (hsz : items.size ≤ sizeLine := by size_fits) :
    wpAny (model prog w) A (call (.ref q) [x]) Q E s := by
  have hT : s.TypeIs (.ref l) "list" := ⟨_, hl, rfl⟩
  refine wpAny_call ?_
  obtain ⟨hh, g, dr, t, os⟩ := s
  refine codeAny_of_tree ?_
  show wpAny _ _ (callAny (.ref q) _) _ _ _
  dsimp only at ho
  refine nd_load ho ?_
  show wpAny _ _ (checkBoundCall "list.append" ⟨[.ref l, x], []⟩ >>= fun _ => again (.builtin "list.append" ⟨[.ref l, x], []⟩)) _ _ _
  refine wpAny_bind ?_
  refine check_append hl ?_
  · refine wpAny_pure ⟨Code.quiet_builtin _ (by decide +kernel), codeAny_builtin F.entry_list_append ?_⟩
    show wpAny _ _ (updateSeq l (·.push x) >>= fun _ => ret .none) _ _ _
    refine wpAny_bind ?_
    refine wpAny_updateSeq hl rfl (wpAny_pure ?_)
    refine hQ _ (Heap.SameBut.update ..) ?_
    show (hh.update l _).get? l = _
    rw [Heap.get?_update_self _ hl (by rw [Obj.mapSeq_push_plain]; rfl), Obj.mapSeq_push_plain]
theorem bound_append_head {h₀ : Heap} {L : Addr} {m : Str → Option Value} {rest : List (Addr × Obj)} (ho : (q, boundO "list.append" l) ∈ rest)
    (F : Fr h₀ L s.heap m) (N : News h₀ L s.heap ((l, { cls := .type "list", data := .seq items n }) :: rest)) (hap : ∀ p ∈ rest, p.1 ≠ l)
    (h : ∀ h', Fr h₀ L h' m → News h₀ L h' ((l, { cls := .type "list", data := .seq (items.push x) (n + 1) }) :: rest) → Q .none { s with heap := h' })
    (hsz : items.size ≤ sizeLine := by size_fits) : wpAny (model prog w) A (call (.ref q) [x]) Q E s :=
  bound_append (hsz := hsz) (N.get (.tail _ ho)) (N.get (.head _)) fun h' hs ho' => h h' (F.change hs (N _ (.head _)).2.1 (N _ (.head _)).2.2) (N.setHead hap hs ho')
theorem bound_append_second {h₀ : Heap} {L : Addr} {m : Str → Option Value} {rest : List (Addr × Obj)}
    (F : Fr h₀ L s.heap m) (N : News h₀ L s.heap ((q, boundO "list.append" l) :: (l, { cls := .type "list", data := .seq items n }) :: rest)) (h1 : q ≠ l) (hap : ∀ p ∈ rest, p.1 ≠ l)
    (h : ∀ h', Fr h₀ L h' m → News h₀ L h' ((q, boundO "list.append" l) :: (l, { cls := .type "list", data := .seq (items.push x) (n + 1) }) :: rest) → Q .none { s with heap := h' })
    (hsz : items.size ≤ sizeLine := by size_fits) : wpAny (model prog w) A (call (.ref q) [x]) Q E s :=
  bound_append (hsz := hsz) (N.get (.head _)) (N.get (.tail _ (.head _))) fun h' hs ho' => h h' (F.change hs (N _ (.tail _ (.head _))).2.1 (N _ (.tail _ (.head _))).2.2) (N.setSecond h1 hap hs ho')
end
end
section

noncomputable def StarV (S : Value) : Prop := S = .none ∨ ∃ a, S = .ref a
inductive PA (S : Value) : List Value → List (Option (List Nat)) → Prop
  | nil : PA S [] []
  | star {vs : List Value} {ps : List (Option (List Nat))} : PA S vs ps → PA S (S :: vs) (none :: ps)
  | str {vs : List Value} {ps : List (Option (List Nat))} {x : List Nat} {u : Tok} : PA S vs ps → PA S (.str ⟨x.toArray⟩ u :: vs) (some x :: ps)
theorem PA.length {S : Value} {vs : List Value} {ps : List (Option (List Nat))} (h : PA S vs ps) : vs.length = ps.length := by
  induction h with
  | nil => rfl
  | star _ ih => simp [ih]
  | str _ ih => simp [ih]
theorem PA.get_none {S : Value} {vs : List Value} {ps : List (Option (List Nat))} (h : PA S vs ps) : ∀ {i : Nat}, ps[i]? = some none → vs[i]? = some S := by
  induction h with
  | nil => intro i h; simp at h
  | star _ ih => intro i h; cases i with
    | zero => rfl
    | succ i => exact ih (by simpa using h)
  | str _ ih => intro i h; cases i with
    | zero => simp at h
    | succ i => exact ih (by simpa using h)
theorem PA.get_some {S : Value} {vs : List Value} {ps : List (Option (List Nat))} (h : PA S vs ps) : ∀ {i : Nat} {x : List Nat}, ps[i]? = some (some x) → ∃ u, vs[i]? = some (.str ⟨x.toArray⟩ u) := by
  induction h with
  | nil => intro i x h; simp at h
  | star _ ih => intro i x h; cases i with
    | zero => simp at h
    | succ i => exact ih (by simpa using h)
  | str _ ih => intro i x h; cases i with
    | zero => simp at h; subst h; exact ⟨_, rfl⟩
    | succ i => exact ih (by simpa using h)
theorem PA.snoc_star {S : Value} {vs : List Value} {ps : List (Option (List Nat))} (h : PA S vs ps) : PA S (vs ++ [S]) (ps ++ [none]) := by
  induction h with
  | nil => exact .star .nil
  | star _ ih => exact .star ih
  | str _ ih => exact .str ih
theorem PA.snoc_str {S : Value} {vs : List Value} {ps : List (Option (List Nat))} {x : List Nat} {u : Tok} (h : PA S vs ps) : PA S (vs ++ [.str ⟨x.toArray⟩ u]) (ps ++ [some x]) := by
  induction h with
  | nil => exact .str .nil
  | star _ ih => exact .star ih
  | str _ ih => exact .str ih
section
variable {M : Model} {A : Around} {E : Value → Shared → Prop} {s : Shared} {S : Value} {Q : Value → Shared → Prop} {x : Str} {u : Tok}
theorem is_star (hS : StarV S) (h : Q (.bool true) s) : wpAny M A (compareOp .Is S S) Q E s := by
  rcases hS with rfl | ⟨a, rfl⟩
  · exact wpAny_is_self rfl h
  · show wpAny M A (do return .bool (← isSame (.ref a) (.ref a))) Q E s
    exact wpAny_bind (wpAny_isSame_ref_self (wpAny_pure h))
theorem isnot_star (hS : StarV S) (h : Q (.bool false) s) : wpAny M A (compareOp .IsNot S S) Q E s := by
  rcases hS with rfl | ⟨a, rfl⟩
  · exact wpAny_isNot_self rfl h
  · show wpAny M A (do return .bool (!(← isSame (.ref a) (.ref a)))) Q E s
    exact wpAny_bind (wpAny_isSame_ref_self (wpAny_pure h))
theorem is_str (hS : StarV S) (h : Q (.bool false) s) : wpAny M A (compareOp .Is (.str x u) S) Q E s := by
  rcases hS with rfl | ⟨a, rfl⟩
  · exact wpAny_is_other rfl (by intro e; cases e) h
  · exact wpAny_is_other rfl (by intro e; cases e) h
theorem isnot_str (hS : StarV S) (h : Q (.bool true) s) : wpAny M A (compareOp .IsNot (.str x u) S) Q E s := by
  rcases hS with rfl | ⟨a, rfl⟩
  · exact wpAny_isNot_other rfl (by intro e; cases e) h
  · exact wpAny_isNot_other rfl (by intro e; cases e) h
end
section
variable {prog : Program} {w : World} {A : Around} {E : Value → Shared → Prop} {s : Shared} {h₀ : Heap} {L : Addr} {m : Str → Option Value} {news news' : List (Addr × Obj)}
theorem item_listN {value slice : PySem.Expr} {a : Addr} {vs : List Value} {n : Nat} {k : Int} {u : Tok} {v : Value} {Q : Value → Shared → Prop} (N : News h₀ L s.heap news) (hm : (a, listOf vs.toArray n) ∈ news) (h0 : 0 ≤ k) (h2 : k < 2 ^ 62)
    (hv : vs[k.toNat]? = some v) (h : Q v s)
    (hs : subscripted slice false (.ref a) (.int k u) = operate [.ref a, .int k u] (getItem (.ref a) (.int k u)) := by with_unfolding_all rfl) :
    wpAny (model prog w) A (subscriptTail value slice (.ref a) (.int k u)) Q E s := item_listV N hm h0 h2 hv h hs
theorem item_listC {value slice : PySem.Expr} {a : Addr} {vs : List Value} {n i : Nat} {u : Tok} {v : Value} {Q : Value → Shared → Prop} (N : News h₀ L s.heap news) (hm : (a, listOf vs.toArray n) ∈ news) (hv : vs[i]? = some v) (hz : vs.length ≤ 1000) (h : Q v s)
    (hs : subscripted slice false (.ref a) (.int (i : Int) u) = operate [.ref a, .int (i : Int) u] (getItem (.ref a) (.int (i : Int) u)) := by with_unfolding_all rfl) :
    wpAny (model prog w) A (subscriptTail value slice (.ref a) (.int (i : Int) u)) Q E s := item_listV N hm (Int.natCast_nonneg i) (om14 (List.getElem?_eq_some_iff.mp hv).1 hz) hv h hs
theorem item_listD {value slice : PySem.Expr} {a : Addr} {vs : List Value} {n i : Nat} {u : Tok} {v : Value} {Q : Value → Shared → Prop} (N : News h₀ L s.heap news) (hm : (a, listOf vs.toArray n) ∈ news) (hv : vs[((i : Int) + 1).toNat]? = some v) (hz : vs.length ≤ 1000) (h : Q v s)
    (hs : subscripted slice false (.ref a) (.int ((i : Int) + 1) u) = operate [.ref a, .int ((i : Int) + 1) u] (getItem (.ref a) (.int ((i : Int) + 1) u)) := by with_unfolding_all rfl) :
    wpAny (model prog w) A (subscriptTail value slice (.ref a) (.int ((i : Int) + 1) u)) Q E s := item_listV N hm (om1 i) (om14 (i := i + 1) (List.getElem?_eq_some_iff.mp hv).1 hz) hv h hs
theorem len_listN {a : Addr} {vs : List Value} {n : Nat} {Q : Value → Shared → Prop} (N : News h₀ L s.heap news) (hm : (a, listOf vs.toArray n) ∈ news) (hz : vs.length ≤ 100000)
    (h : Q (.int vs.length (s.toks + 1)) { s with toks := s.toks + 1 + 1 }) : wpAny (model prog w) A (call (.builtin "len") [.ref a]) Q E s :=
  len_list (news_list N hm) (by simp; omega) (by simpa using h)
theorem bound_append_U {q l : Addr} {x : Value} {its : Array Value} {n : Nat} {Q : Value → Shared → Prop} (hq : (q, boundO "list.append" l) ∈ news) (F : Fr h₀ L s.heap m) (N : News h₀ L s.heap news) (U : Upd l (listOf its n) (listOf (its.push x) (n + 1)) news news')
    (h : ∀ h', Fr h₀ L h' m → News h₀ L h' news' → Q .none { s with heap := h' }) (hsz : its.size ≤ sizeLine) : wpAny (model prog w) A (call (.ref q) [x]) Q E s := by
  obtain ⟨pre, post, rfl, rfl, a, b⟩ := U.split
  have z := N (l, listOf its n) (List.mem_append.mpr (.inr (.head _)))
  exact bound_append (hsz := hsz) (N _ hq).1 z.1 fun h' hs ho' => h h' (F.change hs z.2.1 z.2.2) (news_set N a b hs ho')
theorem bound_append_V {q l : Addr} {x : Value} {its : Array Value} {n : Nat} {Q : Value → Shared → Prop} (F : Fr h₀ L s.heap m) (N : News h₀ L s.heap news) (hq : (q, boundO "list.append" l) ∈ news) (U : Upd l (listOf its n) (listOf (its.push x) (n + 1)) news news')
    (h : ∀ h', Fr h₀ L h' m → News h₀ L h' news' → Q .none { s with heap := h' }) (hsz : its.size ≤ sizeLine) : wpAny (model prog w) A (call (.ref q) [x]) Q E s := bound_append_U hq F N U h hsz
end
noncomputable def StopW (P : Prop) : Prop := P
theorem stopW {P : Prop} (h : StopW P) : P := h
noncomputable def WEnd {σ : Type} (h₀ : Heap) (L : Addr) (s : Shared) (Led : σ → List (Addr × Obj)) (ps : σ → List (Str × Value)) (stored : List Str) (m₀ : Str → Option Value) (P : σ → Prop) (Q : Flow → Shared → Prop) (f : Flow) (s₂ : Shared) : Prop :=
  match f with
  | .next => ∃ (c' : σ) (h' : Heap) (tk : Nat) (m' : Str → Option Value) (news' : List (Addr × Obj)), s₂ = { s with heap := h', toks := tk } ∧ Fr h₀ L h' m' ∧ News h₀ L h' news' ∧ (∀ p ∈ Led c', p ∈ news') ∧ (∀ p ∈ ps c', m' p.1 = some p.2) ∧ (∀ z, (∀ p ∈ ps c', z ≠ p.1) → stored.contains z = false → m' z = m₀ z) ∧ P c'
  | f => Q f s₂
theorem wend {σ : Type} {h₀ : Heap} {L : Addr} {s : Shared} {Led : σ → List (Addr × Obj)} {ps : σ → List (Str × Value)} {stored : List Str} {m₀ m' : Str → Option Value} {P : σ → Prop} {Q : Flow → Shared → Prop} {h' : Heap} {tk : Nat} {news' : List (Addr × Obj)} (c' : σ)
    (F : Fr h₀ L h' m') (N : News h₀ L h' news') (hn : ∀ p ∈ Led c', p ∈ news') (hk : ∀ p ∈ ps c', m' p.1 = some p.2) (hr : ∀ z, (∀ p ∈ ps c', z ≠ p.1) → stored.contains z = false → m' z = m₀ z) (hp : P c') :
    WEnd h₀ L s Led ps stored m₀ P Q .next { s with heap := h', toks := tk } := ⟨c', h', tk, m', news', rfl, F, N, hn, hk, hr, hp⟩
section
variable {prog : Program} {w : World} {A : Around} {E : Value → Shared → Prop} {Q : Flow → Shared → Prop} {s : Shared} {env : Env} {h₀ : Heap} {L : Addr}
theorem while_to {σ : Type} {test : PySem.Expr} {body : List Stmt} {pos : Pos} {m₀ : Str → Option Value} (Led : σ → List (Addr × Obj)) (ps : σ → List (Str × Value)) (stored : List Str) (P Ex : σ → Prop) (μ : σ → Nat) (c₀ : σ)
    (F : Fr h₀ L s.heap m₀) (N : News h₀ L s.heap (Led c₀)) (hk : ∀ p ∈ ps c₀, m₀ p.1 = some p.2) (hp : P c₀)
    (turn : ∀ (c : σ) (u : Str → Option Value) h tk, P c → Fr h₀ L h (kstB (fun z => if stored.contains z then u z else m₀ z) (ps c)) → News h₀ L h (Led c) →
      wpAny (model prog w) A (isTrue test env (eval test env)) (fun b s₂ =>
        if b = true then wpAny (model prog w) A (execs body env) (KswPost h₀ L s Led ps (fun _ => True) stored m₀ P μ (WEnd h₀ L s Led ps stored m₀ Ex Q) c) E s₂ else WEnd h₀ L s Led ps stored m₀ Ex Q .next s₂) E { s with heap := h, toks := tk })
    (rest : ∀ (c : σ) (u : Str → Option Value) h tk, Ex c → Fr h₀ L h (kstB (fun z => if stored.contains z then u z else m₀ z) (ps c)) → News h₀ L h (Led c) → Q .next { s with heap := h, toks := tk })
    (hE : PassesOwn (model prog w) A env E := by passes_own) :
    wpAny (model prog w) A (exec (.While test body [] pos) env) Q E s := by
  refine wpAny_mono (ksw_while (Q := WEnd h₀ L s Led ps stored m₀ Ex Q) Led ps (fun _ => True) stored P μ c₀ F N trivial hk hp (fun c u h tk _ hp F N => turn c u h tk hp F N) hE) (fun f s₂ q => ?_) fun _ _ e => e
  cases f with
  | next =>
    obtain ⟨c', h', tk, m', news', rfl, F', N', hn, hk', hr, hp'⟩ := q
    exact rest c' m' h' tk hp' (ksw_fr hk' hr F') (fun p hp => N' p (hn p hp))
  | brk => exact q
  | cont => exact q
  | ret v => exact q
end
theorem and_bound {h₀ h : Heap} {L q : Addr} {o : Obj} {news : List (Addr × Obj)} {P : Prop} (N : News h₀ L h news) (hq : (q, o) ∈ news) (hp : P) : h.get? q = some o ∧ P := ⟨(N _ hq).1, hp⟩
theorem str_app_len (a b : Str) : (a ++ b).length = a.length + b.length := by
  show (Str.mk (a.cps ++ b.cps)).length = _
  simp [PySem.Str.length]
theorem cat_len (zs : List (List Nat)) : (cat (zs.map fun y => (⟨y.toArray⟩ : Str))).length = zs.flatten.length := by
  unfold cat
  simp only [PySem.Str.length, List.size_toArray, List.flatMap_map]
  induction zs with
  | nil => rfl
  | cons y r ih => simp [List.flatMap_cons, ih]
section
variable {prog : Program} {w : World} {A : Around} {E : Value → Shared → Prop} {s : Shared}
theorem ff_str {x : Str} {t : Tok} {Q : Value → Shared → Prop} (hx : x.length ≤ sizeLine) (h : ∀ u k, Q (.str x u) { s with toks := k }) : wpAny (model prog w) A (formatField (.str x t) Str.empty) Q E s :=
  wpAny_formatField_str (h t s.toks) (h s.toks (s.toks + 1)) hx
end
theorem and_size {x : Str} {P : Prop} (h : x.length ≤ sizeLine) (hp : P) : x.length ≤ sizeLine ∧ P := ⟨h, hp⟩
section
variable {prog : Program} {w : World} {A : Around} {E : Value → Shared → Prop} {Q : Flow → Shared → Prop} {s : Shared} {env : Env} {h₀ : Heap} {L : Addr}
theorem cut_to {σ : Type} {st : Stmt} {m₀ : Str → Option Value} (Led : σ → List (Addr × Obj)) (ps : σ → List (Str × Value)) (stored : List Str) (Mid : σ → Prop) (_F : Fr h₀ L s.heap m₀)
    (h : wpAny (model prog w) A (exec st env) (WEnd h₀ L s Led ps stored m₀ Mid Q) E s)
    (rest : ∀ (c : σ) (u : Str → Option Value) h tk, Mid c → Fr h₀ L h (kstB (fun z => if stored.contains z then u z else m₀ z) (ps c)) → News h₀ L h (Led c) → Q .next { s with heap := h, toks := tk }) :
    wpAny (model prog w) A (exec st env) Q E s := by
  refine wpAny_mono h (fun f s₂ q => ?_) fun _ _ e => e
  cases f with
  | next =>
    obtain ⟨c', h', tk, m', news', rfl, F', N', hn, hk', hr, hp'⟩ := q
    exact rest c' m' h' tk hp' (ksw_fr hk' hr F') (fun p hp => N' p (hn p hp))
  | brk => exact q
  | cont => exact q
  | ret v => exact q
end
end
local macro_rules | `(tactic| walk_at "exec While") => `(tactic| (refine stopW ?_))
local macro_rules | `(tactic| walk_at "formatField") => `(tactic| ((refine' ff_str (by (rw [sizeLine_eq]; omega)) ?_; intro u9 k9; (try dsimp only))))
section

open PySem.Sre in
noncomputable def codeA : Array Nat := #[14, 14, 4, 1, 1, 9, 0, 64, 0, 1342177280, 0, 0, 0, 0, 0, 17, 0, 13, 11, 9, 0, 64, 0, 1342177280, 0, 0, 0, 0, 0, 17, 1, 1]
noncomputable def isAmp (c : Nat) : Bool := c == 38 || c == 124 || c == 126
section
open PySem.Sre
theorem amp_bit5 (c : Nat) : (decide (c < 256) && (codeA.getD (5 + (1 + c / 32)) 0).testBit (c % 32)) = isAmp c := by
  by_cases h : c < 256
  · have key : ∀ j : Fin 256, (codeA.getD (5 + (1 + j.val / 32)) 0).testBit (j.val % 32) = isAmp j.val := by decide +kernel
    rw [decide_eq_true h, Bool.true_and]
    exact key ⟨c, h⟩
  · rw [decide_eq_false h, Bool.false_and]
    unfold isAmp
    have h1 : (c == 38) = false := beq_eq_false_iff_ne.mpr (by omega)
    have h2 : (c == 124) = false := beq_eq_false_iff_ne.mpr (by omega)
    have h3 : (c == 126) = false := beq_eq_false_iff_ne.mpr (by omega)
    rw [h1, h2, h3]; rfl
theorem amp_bit19 (c : Nat) : (decide (c < 256) && (codeA.getD (19 + (1 + c / 32)) 0).testBit (c % 32)) = isAmp c := by
  rw [← amp_bit5]
  by_cases h : c < 256
  · have key : ∀ j : Fin 256, codeA.getD (19 + (1 + j.val / 32)) 0 = codeA.getD (5 + (1 + j.val / 32)) 0 := by decide +kernel
    rw [key ⟨c, h⟩]
  · rw [decide_eq_false h, Bool.false_and, Bool.false_and]
theorem inSet5 (c : Nat) (seen : PySem.Sre.Seen) : ∃ seen', inSet codeA c 32 5 true seen = .ok (isAmp c, seen') := by
  unfold inSet
  have e : ops[codeA.getD (5 + 0) 0]? = some .CHARSET := by kernel_rfl
  simp only [e, amp_bit5]
  cases h : isAmp c with
  | true => exact ⟨_, rfl⟩
  | false =>
    simp only [Bool.false_eq_true, if_false]
    unfold inSet
    have e : ops[codeA.getD (5 + 9 + 0) 0]? = some .FAILURE := by kernel_rfl
    simp only [e]
    exact ⟨_, rfl⟩
theorem inSet19 (c : Nat) (seen : PySem.Sre.Seen) : ∃ seen', inSet codeA c 32 19 true seen = .ok (isAmp c, seen') := by
  unfold inSet
  have e : ops[codeA.getD (19 + 0) 0]? = some .CHARSET := by kernel_rfl
  simp only [e, amp_bit19]
  cases h : isAmp c with
  | true => exact ⟨_, rfl⟩
  | false =>
    simp only [Bool.false_eq_true, if_false]
    unfold inSet
    have e : ops[codeA.getD (19 + 9 + 0) 0]? = some .FAILURE := by kernel_rfl
    simp only [e]
    exact ⟨_, rfl⟩
/-- the first sign of the set from place s on -/
noncomputable def firstAmp (l : List Nat) (s : Nat) : Option Nat := ((l.drop s).findIdx? isAmp).map (· + s)
theorem firstAmp_ge {l : List Nat} {s : Nat} (h : l.length ≤ s) : firstAmp l s = none := by
  unfold firstAmp; rw [List.drop_eq_nil_of_le h]; rfl
theorem firstAmp_step {l : List Nat} {s : Nat} (h : s < l.length) : firstAmp l s = if isAmp l[s] then some s else firstAmp l (s + 1) := by
  unfold firstAmp
  rw [List.drop_eq_getElem_cons h, List.findIdx?_cons]
  cases isAmp l[s]
  · simp only [Bool.false_eq_true, if_false, Option.map_map]
    congr 1; funext x; show x + 1 + s = x + (s + 1); omega
  · simp
theorem admitted_eq (m : M) (l : List Nat) (hc : m.code = codeA) (ht : m.text = l.toArray) (hl : m.lim = l.length) : ∀ (fuel s : Nat) (seen : PySem.Sre.Seen), l.length < s + fuel → ∃ seen', M.admitted m fuel s seen = .ok (firstAmp l s, seen')
  | 0, s, seen, h => by
    rw [firstAmp_ge (by omega)]; exact ⟨_, rfl⟩
  | fuel + 1, s, seen, h => by
    unfold M.admitted
    by_cases hs : s ≥ m.lim
    · rw [if_pos hs, firstAmp_ge (by omega)]; exact ⟨_, rfl⟩
    · rw [if_neg hs]
      have hs' : s < l.length := by omega
      rw [hc, show codeA.size = 32 from rfl]
      obtain ⟨seen1, e⟩ := inSet5 (m.text.getD s 0) seen
      rw [e]
      have eg : m.text.getD s 0 = l[s] := by rw [ht]; simp [hs']
      rw [eg, firstAmp_step hs']
      cases isAmp l[s] with
      | true => exact ⟨_, rfl⟩
      | false => 
        obtain ⟨seen2, e2⟩ := admitted_eq m l hc ht hl fuel (s + 1) seen1 (by omega)
        exact ⟨seen2, e2⟩
end
end
section

section
open PySem.Sre
noncomputable def Mb (l : List Nat) (p : Nat) : M := { code := codeA, text := l.toArray, lim := l.length, start := p, pc := 15, pos := p, handed := p, marks := #[none, none], seen := ({} : PySem.Sre.Seen).add 14 }
noncomputable def M0 (l : List Nat) (p : Nat) : M := { Mb l p with lastStart := l.length }
theorem fs_eq (l : List Nat) (p : Nat) : forSearch codeA l.toArray 1 p l.length false = if (decide (p > l.length) || decide (l.length - p < 1)) = true then M.say (Mb l p) false else (match M.admitted (M0 l p) (l.length + 1 - p) p (M0 l p).seen with
    | .ok (some s, seen) => M.attemptAt { M0 l p with mustAdvance := false, seen } s true
    | .ok (none, seen) => M.say { M0 l p with seen } false
    | .error why => M.stick (M0 l p) why) := by kernel_rfl
theorem fail_ends (m : M) (h1 : m.outcome = none) (h2 : m.frames = []) : ((m.say false).runFor 4).outcome = some .failed := by
  obtain ⟨⟩ := m
  subst h1 h2
  rfl
theorem search_none {l : List Nat} {p : Nat} (h : firstAmp l p = none) : ((forSearch codeA l.toArray 1 p l.length false).runFor 4).outcome = some .failed := by
  rw [fs_eq]
  split
  · exact fail_ends _ rfl rfl
  · obtain ⟨seen, e⟩ := admitted_eq (M0 l p) l rfl rfl rfl (l.length + 1 - p) p (M0 l p).seen (by omega)
    rw [e, h]
    exact fail_ends _ rfl rfl
noncomputable def M1 (l : List Nat) (q pc pos handed : Nat) (marks : Array (Option Nat)) (lm li : Int) (seen : PySem.Sre.Seen) : M :=
  { code := codeA, text := l.toArray, lim := l.length, start := q, lastStart := l.length, pc, pos, handed, marks, lastmark := lm, lastindex := li,
    frames := [{ wait := .nextStart, pc := 15, pos := q, outermost := true }], weight := 1, seen }
theorem m_start (l : List Nat) (p s : Nat) (seen : PySem.Sre.Seen) : M.attemptAt { M0 l p with mustAdvance := false, seen } s true = M1 l s 15 s s #[none, none] (-1) (-1) seen := by kernel_rfl
theorem m_step1 (l : List Nat) (q : Nat) (seen : PySem.Sre.Seen) : M.step (M1 l q 15 q q #[none, none] (-1) (-1) seen) = M1 l q 17 q q #[some q, none] 0 (-1) (seen.add 17) := by kernel_rfl
theorem m_step2 {l : List Nat} {q : Nat} (hq : q < l.length) (ha : isAmp l[q] = true) (seen : PySem.Sre.Seen) : ∃ seen', M.step (M1 l q 17 q q #[some q, none] 0 (-1) seen) = M1 l q 29 (q + 1) q #[some q, none] 0 (-1) seen' := by
  obtain ⟨s2, e⟩ := inSet19 l[q] (seen.add 13)
  rw [ha] at e
  refine ⟨s2, ?_⟩
  have e0 : M.step (M1 l q 17 q q #[some q, none] 0 (-1) seen) = (if q ≥ l.length then (M1 l q 17 q q #[some q, none] 0 (-1) (seen.add 13)).say false else match inSet codeA (l.toArray.getD q 0) 32 19 true (seen.add 13) with
      | .error why => (M1 l q 17 q q #[some q, none] 0 (-1) (seen.add 13)).stick why
      | .ok (false, s) => (M1 l q 17 q q #[some q, none] 0 (-1) s).say false
      | .ok (true, s) => M1 l q 29 (q + 1) q #[some q, none] 0 (-1) s) := by kernel_rfl
  have eg : l.toArray.getD q 0 = l[q] := by simp [hq]
  rw [e0, if_neg (by omega), eg, e]
theorem m_step3 (l : List Nat) (q : Nat) (seen : PySem.Sre.Seen) : M.step (M1 l q 29 (q + 1) q #[some q, none] 0 (-1) seen) = M1 l q 31 (q + 1) q #[some q, some (q + 1)] 1 1 (seen.add 17) := by kernel_rfl
theorem m_step4 (l : List Nat) (q : Nat) (seen : PySem.Sre.Seen) : M.step (M1 l q 31 (q + 1) q #[some q, some (q + 1)] 1 1 seen) = M.say (M1 l q 31 (q + 1) (q + 1) #[some q, some (q + 1)] 1 1 (seen.add 1)) true := by
  have e0 : M.step (M1 l q 31 (q + 1) q #[some q, some (q + 1)] 1 1 seen) = (if (true && ((false && (q + 1) != l.length) || (false && (q + 1) == q))) = true then (M1 l q 31 (q + 1) q #[some q, some (q + 1)] 1 1 (seen.add 1)).say false else M.say (M1 l q 31 (q + 1) (q + 1) #[some q, some (q + 1)] 1 1 (seen.add 1)) true) := by kernel_rfl
  rw [e0]; rfl
structure Hit (m : M) (q : Nat) : Prop where
  start : m.start = q
  handed : m.handed = q + 1
  marks : m.marks = #[some q, some (q + 1)]
  lastmark : m.lastmark = 1
  lastindex : m.lastindex = 1
  outcome : m.outcome = some .matched
theorem search_some {l : List Nat} {p q : Nat} (h : firstAmp l p = some q) : (((forSearch codeA l.toArray 1 p l.length false).runFor 4).outcome = none) ∧ Hit ((((forSearch codeA l.toArray 1 p l.length false).runFor 4).runFor 4)) q := by
  have hq : q < l.length ∧ ∃ hq : q < l.length, isAmp l[q] = true := by
    unfold firstAmp at h
    obtain ⟨j, hj, rfl⟩ := Option.map_eq_some_iff.mp h
    obtain ⟨h1, h2, _⟩ := List.findIdx?_eq_some_iff_getElem.mp hj
    rw [List.length_drop] at h1
    refine ⟨by omega, by omega, ?_⟩
    rw [List.getElem_drop] at h2
    simpa [Nat.add_comm] using h2
  obtain ⟨hql, _, ha⟩ := hq
  have hp : p < l.length := by
    unfold firstAmp at h
    obtain ⟨j, hj, rfl⟩ := Option.map_eq_some_iff.mp h
    omega
  obtain ⟨seen, e⟩ := admitted_eq (M0 l p) l rfl rfl rfl (l.length + 1 - p) p (M0 l p).seen (by omega)
  have e0 : forSearch codeA l.toArray 1 p l.length false = M1 l q 15 q q #[none, none] (-1) (-1) seen := by
    rw [fs_eq, if_neg (by simp; omega), e, h]
    exact m_start l p q seen
  obtain ⟨s2, e2⟩ := m_step2 hql ha (seen.add 17)
  have e4 : (forSearch codeA l.toArray 1 p l.length false).runFor 4 = M.say (M1 l q 31 (q + 1) (q + 1) #[some q, some (q + 1)] 1 1 ((s2.add 17).add 1)) true := by
    rw [e0]
    show M.runFor 3 (M.step (M1 l q 15 q q #[none, none] (-1) (-1) seen)) = _
    rw [m_step1]
    show M.runFor 2 (M.step (M1 l q 17 q q #[some q, none] 0 (-1) (seen.add 17))) = _
    rw [e2]
    show M.runFor 1 (M.step (M1 l q 29 (q + 1) q #[some q, none] 0 (-1) s2)) = _
    rw [m_step3]
    show M.step (M1 l q 31 (q + 1) q #[some q, some (q + 1)] 1 1 (s2.add 17)) = _
    rw [m_step4]
  rw [e4]
  exact ⟨rfl, rfl, rfl, rfl, rfl, rfl, rfl⟩
end
end
section

section facts
theorem slot_pat_sub : Slot "re.Pattern" "sub" "re.Pattern.sub" :=
  .of (owner := "re.Pattern") (n := "sub") (by rw [typeLookup_type, builtinLookup_eq_fast]; kernel_rfl) (by decide +kernel) (by decide +kernel) (by decide +kernel)
    (by first | exact .inl (by decide +kernel) | exact .inr (by decide +kernel)) (by rw [isSubtype_type]; kernel_rfl)
theorem entry_pat_sub : entryFor table "re.Pattern.sub" = some Builtin.«re.Pattern.sub» := entryFor_of_tree (by kernel_rfl)
theorem entry_pat_loop : entryFor table "re.Pattern.sub.loop" = some Builtin.«re.Pattern.sub.loop» := entryFor_of_tree (by kernel_rfl)
theorem args_pat_sub (a b c : Value) : argsOk "re.Pattern.sub" ⟨[a, b, c], []⟩ := by unfold argsOk; kernel_rfl
theorem type_pat_sub : typeOf (.builtin "re.Pattern.sub") = pure (.type "method_descriptor") := by kernel_rfl
theorem plain_pat : PlainAttrs "re.Pattern" :=
  ⟨⟨"object.__getattribute__", by rw [typeLookup_type, builtinLookup_eq_fast]; kernel_rfl, by decide +kernel⟩, by rw [typeLookup_type, builtinLookup_eq_fast]; kernel_rfl⟩
theorem slot_match_group : Slot "re.Match" "group" "re.Match.group" :=
  .of (owner := "re.Match") (n := "group") (by rw [typeLookup_type, builtinLookup_eq_fast]; kernel_rfl) (by decide +kernel) (by decide +kernel) (by decide +kernel)
    (by first | exact .inl (by decide +kernel) | exact .inr (by decide +kernel)) (by rw [isSubtype_type]; kernel_rfl)
theorem entry_match_group : entryFor table "re.Match.group" = some Builtin.«re.Match.group» := entryFor_of_tree (by kernel_rfl)
theorem args_match_group (a b : Value) : argsOk "re.Match.group" ⟨[a, b], []⟩ := by unfold argsOk; kernel_rfl
theorem type_match_group : typeOf (.builtin "re.Match.group") = pure (.type "method_descriptor") := by kernel_rfl
theorem plain_match : PlainAttrs "re.Match" :=
  ⟨⟨"object.__getattribute__", by rw [typeLookup_type, builtinLookup_eq_fast]; kernel_rfl, by decide +kernel⟩, by rw [typeLookup_type, builtinLookup_eq_fast]; kernel_rfl⟩
theorem lk_fn_call : typeLookup (.type "function") (Str.ofString "__call__") = pure (some (.builtin "function.__call__")) := by rw [typeLookup_type, builtinLookup_eq_fast]; kernel_rfl
theorem sub_str_bytearray : isSubtype (.type "str") (.type "bytearray") = pure false := by rw [isSubtype_type]; kernel_rfl
end facts
section
open PySem.Builtin PySem.Builtin.Re
variable {prog : Program} {w : World} {A : Around} {E : Value → Shared → Prop} {s : Shared}
structure PatAt (h : Heap) : Prop where
  p : h.get? 36 = some ob36
  c : h.get? 35 = some ob35
theorem PatAt.keeps {h h' : Heap} (x : PatAt h) (k : ∀ b o, h.get? b = some o → h'.get? b = some o) : PatAt h' := ⟨k _ _ x.p, k _ _ x.c⟩
theorem patAt {w : World} {h : Heap} (X : (K w.params).In h) : PatAt h := ⟨X 36 _ rfl, X 35 _ rfl⟩
noncomputable def tgt (l : List Nat) (u : Tok) : ReTarget := { pattern := .ref 36, string := .str ⟨l.toArray⟩ u, code := codeA, text := l.toArray, kind := 0, groups := 1, pos := 0, lim := l.length }
theorem re_target {l : List Nat} {u : Tok} {Q : ReTarget → Shared → Prop} (x : PatAt s.heap) (h : Q (tgt l u) s) : wpAny (model prog w) A (reWholeTarget (.ref 36) (.str ⟨l.toArray⟩ u)) Q E s := by
  unfold reWholeTarget
  refine wpAny_bind (wpAny_fieldsOf x.p rfl ?_)
  refine wpAny_bind (m := reTextOf (.str ⟨l.toArray⟩ u)) (wpAny_of_eq (a := (l.toArray, 0)) rfl ?_)
  dsimp only
  rw [show ((reRawNat ((#[Value.str (Str.ofString "([&~|])") 285, .int 32 320, .int 1 0, .none, .none, .ref 35, .int 0 0] : Array Value).getD 6 .none) == 0 && (0 : Nat) == 1)) = false from rfl]
  rw [show ((reRawNat ((#[Value.str (Str.ofString "([&~|])") 285, .int 32 320, .int 1 0, .none, .none, .ref 35, .int 0 0] : Array Value).getD 6 .none) == 1 && (0 : Nat) == 0)) = false from rfl]
  simp only [Bool.false_eq_true, if_false]
  refine wpAny_bind (m := reNoCollectionInside (.str ⟨l.toArray⟩ u) 0) (wpAny_pure ?_)
  unfold reRawItems
  refine wpAny_bind (wpAny_bind (wpAny_seqItems (a := 35) x.c rfl (wpAny_pure ?_)))
  refine wpAny_pure ?_
  have e : (((some (#[iv 14, iv 14, iv 4, iv 1, iv 1, iv 9, iv 0, iv 64, iv 0, iv 1342177280, iv 0, iv 0, iv 0, iv 0, iv 0, iv 17, iv 0, iv 13, iv 11, iv 9, iv 0, iv 64, iv 0, iv 1342177280, iv 0, iv 0, iv 0, iv 0, iv 0, iv 17, iv 1, iv 1] : Array Value)).getD #[]).map reRawOf).map (·.toNat) = codeA := by decide +kernel
  have q : tgt l u = { pattern := .ref 36, string := .str ⟨l.toArray⟩ u, code := codeA, text := l.toArray, kind := 0, groups := 1, pos := 0, lim := l.toArray.size } := by unfold tgt; simp
  rw [q] at h
  rw [← e] at h
  exact h
theorem wp_rules (c : Nat → Bool) (nm : Nat → String) {Q : PUnit → Shared → Prop} (h : Q ⟨⟩ s) : ∀ l : List Nat, wpAny (model prog w) A (forIn l (⟨⟩ : PUnit) fun i _ => (if c i = true then do PySem.rule (nm i); pure (ForInStep.yield ⟨⟩) else pure (ForInStep.yield ⟨⟩) : Sem (ForInStep PUnit))) Q E s
  | [] => wpAny_pure h
  | i :: r => by
    rw [List.forIn_cons]
    refine wpAny_bind ?_
    cases c i
    · simp only [Bool.false_eq_true, if_false]
      exact wpAny_pure (wp_rules c nm h r)
    · simp only [if_true]
      exact wpAny_bind (wpAny_rule (wpAny_pure (wp_rules c nm h r)))
theorem drive_none {m : PySem.Sre.M} {o : PySem.Sre.Outcome} {n : Nat} {Q : PySem.Sre.M → Shared → Prop} (e : (m.runFor 4).outcome = some o) (h : Q (m.runFor 4) s) : wpAny (model prog w) A (reDrive (n + 1) m) Q E s := by
  rw [reDrive]
  rw [show reTurnSteps = 4 from rfl]
  show wpAny _ _ (if (m.runFor 4).outcome.isSome = true then _ else _) _ _ _
  rw [e]
  exact wpAny_pure h
theorem drive_more {m : PySem.Sre.M} {n : Nat} {Q : PySem.Sre.M → Shared → Prop} (e : (m.runFor 4).outcome = none) (h : wpAny (model prog w) A (reDrive n (m.runFor 4)) Q E s) : wpAny (model prog w) A (reDrive (n + 1) m) Q E s := by
  rw [reDrive]
  rw [show reTurnSteps = 4 from rfl]
  show wpAny _ _ (if (m.runFor 4).outcome.isSome = true then _ else _) _ _ _
  rw [e]
  exact wpAny_bind (wpAny_rule h)
theorem find_none {l : List Nat} {u : Tok} {p : Nat} {Q : Option PySem.Sre.M → Shared → Prop} (e : firstAmp l p = none) (h : Q none s) : wpAny (model prog w) A (reNextFound (tgt l u) p false) Q E s := by
  unfold reNextFound reRunToEnd
  have e1 := search_none e
  refine wpAny_bind ?_
  show wpAny _ _ (reDrive (18446744073709551615 + 1) _) _ _ _
  refine drive_none e1 ?_
  refine wpAny_bind (wp_rules _ _ ?_ _)
  show wpAny _ _ (match ((PySem.Sre.forSearch codeA l.toArray 1 p l.length false).runFor 4).outcome with | some .matched => _ | some .failed => _ | some (.stuck _) => _ | none => _) _ _ _
  rw [e1]
  exact wpAny_pure h
theorem find_some {l : List Nat} {u : Tok} {p q : Nat} {Q : Option PySem.Sre.M → Shared → Prop} (e : firstAmp l p = some q) (h : ∀ m, Hit m q → Q (some m) s) : wpAny (model prog w) A (reNextFound (tgt l u) p false) Q E s := by
  unfold reNextFound reRunToEnd
  obtain ⟨e1, e2⟩ := search_some e
  refine wpAny_bind ?_
  show wpAny _ _ (reDrive (18446744073709551614 + 1 + 1) _) _ _ _
  refine drive_more e1 (drive_none e2.outcome ?_)
  refine wpAny_bind (wp_rules _ _ ?_ _)
  have e3 := e2.outcome
  have h' := h _ e2
  show wpAny _ _ (match (((PySem.Sre.forSearch codeA l.toArray 1 p l.length false).runFor 4).runFor 4).outcome with | some .matched => _ | some .failed => _ | some (.stuck _) => _ | none => _) _ _ _
  rw [e3]
  exact wpAny_pure h'
end
end
section

noncomputable abbrev Pt := Option (List Nat)
noncomputable def lead : List Pt → List (List Nat)
  | some x :: r => x :: lead r
  | _ => []
noncomputable def after : List Pt → List Pt
  | some _ :: r => after r
  | l => l
theorem after_len : ∀ l : List Pt, (after l).length ≤ l.length
  | [] => Nat.le_refl _
  | none :: r => Nat.le_refl _
  | some x :: r => Nat.le_succ_of_le (after_len r)
noncomputable def segs : List Pt → List (List Nat)
  | none :: r => if r = [] then [[46, 42]] else if after r = [] then [[46, 42], (lead r).flatten] else ([40, 63, 62, 46, 42, 63] ++ (lead r).flatten ++ [41]) :: segs (after r)
  | _ => []
  termination_by l => l.length
  decreasing_by have := after_len r; simp; omega
noncomputable def joinL (ps : List Pt) : List Nat := (lead ps ++ segs (after ps)).flatten
noncomputable def joinT (ps : List Pt) : List Nat := [40, 63, 115, 58] ++ joinL ps ++ [41, 92, 90]
noncomputable def plen : Pt → Nat
  | some x => x.length
  | none => 0
noncomputable def tot (ps : List Pt) : Nat := (ps.map plen).sum
theorem after_cases : ∀ l : List Pt, after l = [] ∨ ∃ r, after l = none :: r
  | [] => .inl rfl
  | none :: r => .inr ⟨r, rfl⟩
  | some x :: r => after_cases r
theorem lead_len : ∀ l : List Pt, (lead l).length ≤ l.length
  | [] => Nat.le_refl _
  | none :: r => Nat.zero_le _
  | some x :: r => Nat.succ_le_succ (lead_len r)
theorem split_tot : ∀ l : List Pt, (lead l).flatten.length + tot (after l) = tot l
  | [] => rfl
  | none :: r => by simp [lead, after]
  | some x :: r => by
    have := split_tot r
    simp only [lead, after, tot, List.map_cons, List.sum_cons, plen, List.flatten_cons, List.length_append] at this ⊢
    omega
theorem segs_len : ∀ (n : Nat) (l : List Pt), l.length ≤ n → (segs l).flatten.length ≤ tot l + 8 * l.length ∧ (segs l).length ≤ 2 * l.length
  | n, [], _ => by simp [segs, tot]
  | n, some x :: r, _ => by simp [segs]
  | 0, none :: r, h => by simp at h
  | n + 1, none :: r, h => by
    have h1 := split_tot r
    have h2 := after_len r
    have ih := segs_len n (after r) (by simp at h; omega)
    have e : tot (none :: r) = tot r := by simp [tot, plen]
    rw [e]
    unfold segs
    split
    · rename_i hr; subst hr; exact ⟨by decide, by decide⟩
    · rename_i hr
      have hpos : 0 < r.length := List.length_pos_iff.mpr hr
      split
      · simp only [List.flatten_cons, List.flatten_nil, List.length_append, List.length_cons, List.length_nil]; omega
      · simp only [List.flatten_cons, List.length_append, List.length_cons, List.length_nil]; omega
theorem segs_nil : segs [] = [] := by unfold segs; rfl
theorem segs_none (r : List Pt) : segs (none :: r) = if r = [] then [[46, 42]] else if after r = [] then [[46, 42], (lead r).flatten] else ([40, 63, 62, 46, 42, 63] ++ (lead r).flatten ++ [41]) :: segs (after r) := by rw [segs]
/-- the pieces that are still to come from place i on -/
noncomputable def todo (ps : List Pt) (i : Nat) : List (List Nat) := lead (ps.drop i) ++ segs (after (ps.drop i))
theorem drop_at {ps : List Pt} {i : Nat} {x : Pt} (h : ps[i]? = some x) : ps.drop i = x :: ps.drop (i + 1) := by
  obtain ⟨hi, rfl⟩ := List.getElem?_eq_some_iff.mp h
  exact List.drop_eq_getElem_cons hi
theorem todo_some {ps : List Pt} {i : Nat} {x : List Nat} (h : ps[i]? = some (some x)) : todo ps i = x :: todo ps (i + 1) := by
  unfold todo; rw [drop_at h]; rfl
theorem todo_end {ps : List Pt} {i : Nat} (h : ps.length ≤ i) : todo ps i = [] := by
  unfold todo; rw [List.drop_eq_nil_of_le h]; simp [lead, after, segs_nil]
theorem todo_none {ps : List Pt} {i : Nat} (h : ps[i]? = some none) : todo ps i = segs (none :: ps.drop (i + 1)) := by
  unfold todo; rw [drop_at h]; rfl
theorem strs_sum (zs : List (List Nat)) : ((zs.map fun y => (⟨y.toArray⟩ : Str)).map (·.length)).sum = zs.flatten.length := by
  induction zs with
  | nil => rfl
  | cons y r ih => simp only [List.map_cons, List.sum_cons, List.flatten_cons, List.length_append, ih]; simp [PySem.Str.length]
theorem tot_drop (ps : List Pt) (i : Nat) : tot (ps.drop i) ≤ tot ps := by
  unfold tot
  induction i generalizing ps with
  | zero => simp
  | succ i ih =>
    cases ps with
    | nil => simp
    | cons x r => simp only [List.drop_succ_cons, List.map_cons, List.sum_cons]; have := ih r; omega
theorem todo_len (ps : List Pt) : (todo ps 0).flatten.length ≤ tot ps + 8 * ps.length ∧ (todo ps 0).length ≤ 3 * ps.length := by
  unfold todo
  rw [List.drop_zero, List.flatten_append, List.length_append, List.length_append]
  have h1 := split_tot ps
  have h2 := after_len ps
  have h3 := segs_len _ (after ps) (Nat.le_refl _)
  have h4 := lead_len ps
  omega
structure FInv (ps : List Pt) (i j : Nat) (fs : List Value) (zs : List (List Nat)) : Prop where
  lo : i + 1 ≤ j
  le : j ≤ ps.length
  str : StrsAre fs (zs.map fun y => (⟨y.toArray⟩ : Str))
  len : fs.length ≤ j
  eq : zs ++ lead (ps.drop j) = lead (ps.drop (i + 1))
  af : after (ps.drop j) = after (ps.drop (i + 1))
theorem FInv.bound {ps : List Pt} {i j : Nat} {fs : List Value} {zs : List (List Nat)} (h : FInv ps i j fs zs) : zs.flatten.length ≤ tot ps ∧ zs.length ≤ ps.length := by
  have h1 := split_tot (ps.drop (i + 1))
  have h2 := tot_drop ps (i + 1)
  have h3 := lead_len (ps.drop (i + 1))
  have h4 : (ps.drop (i + 1)).length ≤ ps.length := by simp
  rw [← h.eq] at h1 h3
  simp only [List.flatten_append, List.length_append] at h1 h3
  omega
theorem FInv.step {ps : List Pt} {i j : Nat} {fs : List Value} {zs : List (List Nat)} {x : List Nat} {u : Tok} (h : FInv ps i j fs zs) (hx : ps[j]? = some (some x)) : FInv ps i (j + 1) (fs ++ [.str ⟨x.toArray⟩ u]) (zs ++ [x]) := by
  have hj : j < ps.length := (List.getElem?_eq_some_iff.mp hx).1
  refine ⟨by have := h.lo; omega, hj, ?_, by have := h.len; simp; omega, ?_, ?_⟩
  · rw [List.map_append]; exact strs_snoc h.str
  · have := h.eq; rw [drop_at hx] at this; simpa [lead] using this
  · have := h.af; rw [drop_at hx] at this; simpa [after] using this
theorem FInv.start (ps : List Pt) {i : Nat} (hi : i < ps.length) : FInv ps i (i + 1) [] [] := ⟨Nat.le_refl _, hi, .nil, Nat.zero_le _, rfl, rfl⟩
/-- at the end of a run -/
theorem FInv.stop {ps : List Pt} {i j : Nat} {fs : List Value} {zs : List (List Nat)} (h : FInv ps i j fs zs) (hj : j = ps.length ∨ ps[j]? = some none) : zs = lead (ps.drop (i + 1)) ∧ after (ps.drop (i + 1)) = ps.drop j := by
  have h1 := h.eq
  have h2 := h.af
  rcases hj with rfl | hj
  · rw [List.drop_length] at h1 h2 ⊢
    exact ⟨by simpa [lead] using h1, h2.symm⟩
  · rw [drop_at hj] at h1 h2
    rw [drop_at hj]
    exact ⟨by simpa [lead] using h1, h2.symm⟩
theorem cat_flat (zs : List (List Nat)) : cat (zs.map fun y => (⟨y.toArray⟩ : Str)) = ⟨zs.flatten.toArray⟩ := by
  unfold cat
  rw [List.flatMap_map]
  congr 2
  induction zs with
  | nil => rfl
  | cons y r ih => simp [List.flatMap_cons, ih]
theorem stz_app (a b : List Nat) : (⟨a.toArray⟩ : Str) ++ ⟨b.toArray⟩ = ⟨(a ++ b).toArray⟩ := by
  show Str.mk (a.toArray ++ b.toArray) = _
  rw [List.append_toArray]
theorem empty_app (a : List Nat) : PySem.Str.empty ++ (⟨a.toArray⟩ : Str) = ⟨a.toArray⟩ := by
  show Str.mk (#[] ++ a.toArray) = _
  simp
end
section

noncomputable def escA (c : Nat) : List Nat := if isAmp c then [92, c] else [c]
noncomputable def escAmp (l : List Nat) : List Nat := l.flatMap escA
theorem escAmp_app (a b : List Nat) : escAmp (a ++ b) = escAmp a ++ escAmp b := List.flatMap_append
theorem escAmp_len (l : List Nat) : (escAmp l).length ≤ 2 * l.length := by
  induction l with
  | nil => exact Nat.le_refl _
  | cons c r ih => 
    have e : escAmp (c :: r) = escA c ++ escAmp r := List.flatMap_cons
    rw [e, List.length_append, List.length_cons]
    have : (escA c).length ≤ 2 := by unfold escA; split <;> simp
    omega
theorem escAmp_plain : ∀ l : List Nat, (∀ c ∈ l, isAmp c = false) → escAmp l = l
  | [], _ => rfl
  | c :: r, h => by
    have e : escAmp (c :: r) = escA c ++ escAmp r := List.flatMap_cons
    rw [e, escAmp_plain r fun x hx => h x (.tail _ hx)]
    unfold escA
    rw [h c (.head _)]; rfl
theorem firstAmp_none_plain {l : List Nat} {p : Nat} (h : firstAmp l p = none) : ∀ c ∈ l.drop p, isAmp c = false := by
  unfold firstAmp at h
  have h2 := Option.map_eq_none_iff.mp h
  intro c hc
  have := List.findIdx?_eq_none_iff.mp h2 c hc
  simpa using this
theorem firstAmp_some_facts {l : List Nat} {p q : Nat} (h : firstAmp l p = some q) : p ≤ q ∧ ∃ hq : q < l.length, isAmp l[q] = true ∧ ∀ c ∈ (l.drop p).take (q - p), isAmp c = false := by
  unfold firstAmp at h
  obtain ⟨j, hj, rfl⟩ := Option.map_eq_some_iff.mp h
  obtain ⟨h1, h2, h3⟩ := List.findIdx?_eq_some_iff_getElem.mp hj
  rw [List.length_drop] at h1
  refine ⟨by omega, by omega, ?_, ?_⟩
  · rw [List.getElem_drop] at h2
    simpa [Nat.add_comm] using h2
  · intro c hc
    rw [show j + p - p = j by omega] at hc
    obtain ⟨i, hi, rfl⟩ := List.getElem_of_mem hc
    rw [List.length_take] at hi
    have := h3 i (by omega)
    rw [List.getElem_take]
    simpa using this
noncomputable abbrev matchO (l : List Nat) (u : Tok) (T : Addr) : Obj := { cls := .type "re.Match", data := .fields #[.str ⟨l.toArray⟩ u, .ref 36, .int 0 0, .int l.length 0, .int 1 0, .ref T] }
noncomputable abbrev spanO (q : Nat) : Obj := tup [.int q 0, .int (q + 1 : Nat) 0, .int q 0, .int (q + 1 : Nat) 0]
noncomputable abbrev Kp (h h' : Heap) : Prop := ∀ b o, h.get? b = some o → h'.get? b = some o
theorem Kp.push {hs h : Heap} (k : Kp hs h) (o : Obj) : Kp hs (h.push o) := fun _ _ e => Heap.get?_push_of_some _ (k _ _ e)
theorem Kp.upd {hs h : Heap} {D : Addr} (k : Kp hs h) (hD : hs.get? D = none) (f : Obj → Obj) : Kp hs (h.update D f) := fun b o e => by
  rw [Heap.get?_update_other _ _ (fun q => by rw [← q, hD] at e; cases e)]; exact k _ _ e
theorem none_new {hs h : Heap} (k : Kp hs h) {a : Nat} (ha : h.objs.size ≤ a) : hs.get? a = none := by
  cases e : hs.get? a with
  | none => rfl
  | some o => exact absurd (Heap.lt_size (k _ _ e)) (Nat.not_lt.mpr ha)
noncomputable def LamOk (w : World) (A : Around) (f : Addr) (l : List Nat) (u : Tok) (h₀ : Heap) (L : Addr) (m : Str → Option Value) (led : List (Addr × Obj)) : Prop :=
  ∀ (s : Shared) (Q E : Value → Shared → Prop) (mt T D : Addr) (q k : Nat) (us : List Value) (hq : q < l.length), Fr h₀ L s.heap m → News h₀ L s.heap ((mt, matchO l u T) :: (T, spanO q) :: (D, listOf us.toArray k) :: led) →
    (∀ u' h' tk, Fr h₀ L h' m → News h₀ L h' ((D, listOf us.toArray k) :: led) → Q (.str ⟨#[92, l[q]]⟩ u') { s with heap := h', toks := tk }) → wpAny (model PySem.Challenge.pw_rx0107_01 w) A (call (.ref f) [.ref mt]) Q E s
section
open PySem.Builtin PySem.Builtin.Re
variable {prog : Program} {w : World} {A : Around} {E : Value → Shared → Prop} {s : Shared}
theorem re_slice {l : List Nat} {b e : Nat} {Q : Value → Shared → Prop} (hz : l.length ≤ 100000) (h : ∀ k, Q (.str ⟨((l.drop b).take (e - b)).toArray⟩ k) { s with toks := k + 1 }) : wpAny (model prog w) A (reSlice l.toArray 0 b e) Q E s := by
  unfold reSlice
  have q : (⟨l.toArray.extract b e⟩ : Str) = ⟨((l.drop b).take (e - b)).toArray⟩ := by
    congr 1
    simp [List.extract_toArray]
  show wpAny _ _ (mkStr ⟨l.toArray.extract b e⟩) _ _ _
  rw [q]
  refine wpAny_mkStr (h _) ?_
  show ((l.drop b).take (e - b)).toArray.size ≤ sizeLine
  rw [sizeLine_eq]; simp; omega
theorem ite_f {α : Type} {M : Model} {b : Bool} {x y : Sem α} {Q : α → Shared → Prop} (hb : b = false) (h : wpAny M A y Q E s) : wpAny M A (if b = true then x else y) Q E s := by rw [hb]; exact h
theorem ite_t {α : Type} {M : Model} {b : Bool} {x y : Sem α} {Q : α → Shared → Prop} (hb : b = true) (h : wpAny M A x Q E s) : wpAny M A (if b = true then x else y) Q E s := by rw [hb]; exact h
theorem re_match {l : List Nat} {u : Tok} {q : Nat} {m : PySem.Sre.M} {Q : Value → Shared → Prop} (hm : Hit m q)
    (h : Q (.ref (s.heap.objs.size + 1)) { s with heap := (s.heap.push (spanO q)).push (matchO l u s.heap.objs.size) }) : wpAny (model prog w) A (reNewMatch (.ref 36) (.str ⟨l.toArray⟩ u) 1 0 l.length m) Q E s := by
  obtain ⟨h1, h2, h3, h4, h5, h6⟩ := hm
  unfold reNewMatch
  rw [h1, h2, h3, h4, h5]
  dsimp only
  refine ite_f ?_ ?_
  · show ((true && decide (q + 1 < q)) || false) = false
    simp
  refine wpAny_bind (m := newTuple _) (wpAny_newTuple ?_ (by rw [sizeLine_eq]; show (4 : Nat) ≤ 16777216; decide))
  have e2 : (s.heap.push (spanO q)).objs.size = s.heap.objs.size + 1 := Heap.size_push ..
  unfold newFields
  refine wpAny_newObj_type ?_ (by show (6 : Nat) ≤ sizeLine + 2; rw [sizeLine_eq]; decide)
  show Q (.ref (s.heap.push (spanO q)).objs.size) _
  rw [e2]
  exact h
theorem upd_seq {D : Addr} {us : List Value} {k : Nat} {x : Value} {Q : Unit → Shared → Prop} (hD : s.heap.get? D = some (listOf us.toArray k)) (hz : us.length ≤ 100000)
    (h : ∀ h', h' = s.heap.update D (Obj.mapSeq (·.push x)) → h'.get? D = some (listOf (us ++ [x]).toArray (k + 1)) → Q () { s with heap := h' }) : wpAny (model prog w) A (updateSeq D (·.push x)) Q E s := by
  refine wpAny_updateSeq hD rfl (h _ rfl ?_) (by
    show us.toArray.size ≤ sizeLine
    rw [sizeLine_eq]; simp; omega) (by
    show (us.toArray.push x).size ≤ sizeLine + 1
    rw [sizeLine_eq]; simp; omega)
  rw [Heap.get?_update_self _ hD (by rw [Obj.mapSeq_push_plain]; rfl), Obj.mapSeq_push_plain, List.push_toArray]
noncomputable abbrev loopArgs (l : List Nat) (u : Tok) (f D : Addr) (n p : Nat) : Args := ⟨[.ref 36, .str ⟨l.toArray⟩ u, .ref f, rawInt 1, rawInt 0, rawInt n, rawInt p, rawInt p, .bool false, .ref D, .bool false], []⟩
theorem plain_loop : plainId "re.Pattern.sub.loop" = true := by decide +kernel
theorem loop_tail {R : Result → Shared → Prop} {D : Addr} {l : List Nat} {us : List Value} {zs : List (List Nat)} {k : Nat} {h₀ : Heap} {L : Addr} {m : Str → Option Value} {led : List (Addr × Obj)} {X1 X2 : Value → Sem Fin} {C : Code → Shared → Prop} (hz : l.length ≤ 10000)
    (F : Fr h₀ L s.heap m) (N : News h₀ L s.heap ((D, listOf us.toArray k) :: led)) (hus : StrsAre us (zs.map fun y => (⟨y.toArray⟩ : Str))) (hul : us.length ≤ 2 * l.length + 1) (hzs : zs.flatten = escAmp l)
    (ret : ∀ h' tk u', Fr h₀ L h' m → News h₀ L h' led → R (.ok (.ret (.str ⟨(escAmp l).toArray⟩ u'))) { s with heap := h', toks := tk }) :
    wpAny (model prog w) A (reSlice l.toArray 0 0 0 >>= fun joiner => seqItems? (.ref D) >>= fun r => if (r.getD #[]).isEmpty = true then ((pure joiner : Sem Value) >>= fun text => if false = true then X1 text else PySem.ret text)
      else (call (.builtin (if ((0 : Nat) == 0) = true then "str.join" else "bytes.join")) [joiner, .ref D] >>= fun text => if false = true then X2 text else PySem.ret text))
      (fun fin s' => match fin with | .done f => R (.ok f) s' | .again c' => C c' s') E s := by
  have hD := (N _ (.head _)).1
  have N0 : News h₀ L s.heap led := fun p hp => N p (.tail _ hp)
  refine wpAny_bind (re_slice (by omega) fun k1 => ?_)
  refine wpAny_bind (wpAny_seqItems (s := { s with toks := k1 + 1 }) hD rfl ?_)
  cases us with
  | nil =>
    refine ite_t (by rfl) ?_
    have e : escAmp l = [] := by
      have h3 := hus.length
      have : zs = [] := by
        cases zs with
        | nil => rfl
        | cons y r => simp at h3
      rw [this] at hzs; exact hzs.symm
    refine wpAny_bind (wpAny_pure (ite_f rfl (wpAny_pure ?_)))
    have q := ret s.heap (k1 + 1) k1 F N0
    rw [e] at q
    simpa using q
  | cons v r =>
    refine ite_f (by simp) ?_
    have hw : ((zs.map fun y => (⟨y.toArray⟩ : Str)).map (·.length)).sum + (zs.map fun y => (⟨y.toArray⟩ : Str)).length ≤ 1048576 := by
      have h1 := strs_sum zs
      have h2 := escAmp_len l
      have h3 := hus.length
      rw [hzs] at h1
      rw [h1]
      rw [← h3]
      omega
    have e0 : (Value.str ⟨((l.drop 0).take (0 - 0)).toArray⟩ k1) = Value.str ⟨#[]⟩ k1 := by simp
    rw [e0]
    refine wpAny_bind (join0 (s := { s with toks := k1 + 1 }) ⟨_, hD, rfl, _, rfl⟩ (by simpa using hus) hw fun t' k' => ?_)
    refine ite_f rfl (wpAny_pure ?_)
    rw [cat_flat, hzs]
    exact ret s.heap k' t' F N0
theorem upd_news {h₀ : Heap} {L D : Addr} {m : Str → Option Value} {us : List Value} {k : Nat} {x : Value} {led : List (Addr × Obj)} {Q : Unit → Shared → Prop} (F : Fr h₀ L s.heap m) (N : News h₀ L s.heap ((D, listOf us.toArray k) :: led)) (hap : ∀ p ∈ led, p.1 ≠ D) (hz : us.length ≤ 100000)
    (h : ∀ h', Fr h₀ L h' m → News h₀ L h' ((D, listOf (us ++ [x]).toArray (k + 1)) :: led) → Q () { s with heap := h' }) : wpAny (model prog w) A (updateSeq D (·.push x)) Q E s :=
  upd_seq (N _ (.head _)).1 hz fun h' e hD => by
    have hs : Heap.SameBut D s.heap h' := e ▸ Heap.SameBut.update ..
    exact h h' (F.change hs (N _ (.head _)).2.1 (N _ (.head _)).2.2) (N.setHead hap hs hD)
theorem loop_turn {R : Result → Shared → Prop} {f D : Addr} {l : List Nat} {u : Tok} {us : List Value} {zs : List (List Nat)} {k n q : Nat} {h₀ : Heap} {L : Addr} {mm : Str → Option Value} {led : List (Addr × Obj)} {m : PySem.Sre.M} {X1 X3 : Sem Fin} {X4 : Value → Sem Value} (hz : l.length ≤ 10000) (hlam : LamOk w A f l u h₀ L mm led)
    (hm : Hit m q) (hq : q < l.length) (haq : isAmp l[q] = true) (hap : ∀ p ∈ led, p.1 ≠ D) (F : Fr h₀ L s.heap mm) (N : News h₀ L s.heap ((D, listOf us.toArray k) :: led)) (hus : StrsAre us (zs.map fun y => (⟨y.toArray⟩ : Str))) (hul : us.length ≤ 2 * q + 1) (hzs : zs.flatten = escAmp (l.take q))
    {A' : Around} (ret : ∀ (h' : Heap) (tk k' : Nat) (us' : List Value) (zs' : List (List Nat)), Fr h₀ L h' mm → News h₀ L h' ((D, listOf us'.toArray k') :: led) → StrsAre us' (zs'.map fun y => (⟨y.toArray⟩ : Str)) → us'.length ≤ 2 * (q + 1) → zs'.flatten = escAmp (l.take (q + 1)) →
      codeAny (model PySem.Challenge.pw_rx0107_01 w) A' (.builtin "re.Pattern.sub.loop" (loopArgs l u f D (n + 1) (q + 1))) R { s with heap := h', toks := tk }) :
    wpAny (model PySem.Challenge.pw_rx0107_01 w) A (if ((1 : Int) == 0) = true then X1 else (reNewMatch (.ref 36) (.str ⟨l.toArray⟩ u) 1 0 l.length m >>= fun found => holding [found] (if ((1 : Int) == 1) = true then call (.ref f) [found] else X4 found) >>= fun item => if (item != Value.none) = true then (updateSeq D (·.push item) >>= fun _ =>
      again (.builtin "re.Pattern.sub.loop" ⟨[.ref 36, .str ⟨l.toArray⟩ u, .ref f, rawInt 1, rawInt 0, rawInt ((n : Int) + 1), rawInt m.handed, rawInt m.handed, .bool (m.handed == m.start), .ref D, .bool false], []⟩)) else X3))
      (fun fin s' => match fin with | .done f => R (.ok f) s' | .again c' => c'.quiet = true ∧ codeAny (model PySem.Challenge.pw_rx0107_01 w) A' c' R s') E s := by
  refine ite_f rfl ?_
  refine wpAny_bind (re_match hm ?_)
  have F1 := F.push (spanO q)
  have N1 := N.push F (spanO q)
  have F2 := F1.push (matchO l u s.heap.objs.size)
  have N2 := N1.push F1 (matchO l u s.heap.objs.size)
  rw [Heap.size_push] at N2
  refine wpAny_bind (wpAny_holding (ite_t rfl ?_))
  refine hlam _ _ _ _ s.heap.objs.size D q k us hq F2 N2 fun u' h' tk F' N' => ?_
  refine ite_t (by rfl) ?_
  refine wpAny_bind (upd_news (s := { s with heap := h', toks := tk }) F' N' hap (by omega) fun h2 F3 N3 => ?_)
  refine wpAny_pure ⟨plainId_quiet plain_loop _, ?_⟩
  have q1 := ret h2 tk (k + 1) (us ++ [.str ⟨#[92, l[q]]⟩ u']) (zs ++ [[92, l[q]]]) F3 N3 (by
      rw [List.map_append]; exact strs_snoc hus) (by simp; omega) (by
      rw [List.take_succ_eq_append_getElem hq, escAmp_app, ← hzs]
      have : escAmp [l[q]] = [92, l[q]] := by unfold escAmp escA; simp [haq]
      simp [this])
  rw [hm.handed, hm.start]
  have eb : (q + 1 == q) = false := by simp
  rw [eb]
  exact q1
theorem sub_loop {R : Result → Shared → Prop} {f D : Addr} {l : List Nat} {u : Tok} {h₀ : Heap} {L : Addr} {mm : Str → Option Value} {led : List (Addr × Obj)} (hz : l.length ≤ 10000) (hlam : LamOk w A.in1 f l u h₀ L mm led) (hP : PatAt h₀) (hap : ∀ p ∈ led, p.1 ≠ D) :
    ∀ (N p n k : Nat) (us : List Value) (zs : List (List Nat)) (s : Shared), l.length < p + N → p ≤ l.length → Fr h₀ L s.heap mm → News h₀ L s.heap ((D, listOf us.toArray k) :: led) → StrsAre us (zs.map fun y => (⟨y.toArray⟩ : Str)) → us.length ≤ 2 * p → zs.flatten = escAmp (l.take p) →
      (∀ h' tk u', Fr h₀ L h' mm → News h₀ L h' led → R (.ok (.ret (.str ⟨(escAmp l).toArray⟩ u'))) { s with heap := h', toks := tk }) →
      codeAny (model PySem.Challenge.pw_rx0107_01 w) A (.builtin "re.Pattern.sub.loop" (loopArgs l u f D n p)) R s
  | 0, p, n, k, us, zs, s, h1, h2, _, _, _, _, _, _ => by omega
  | N' + 1, p, n, k, us, zs, s, h1, h2, F, N, hus, hul, hzs, ret => by
    refine codeAny_builtin entry_pat_loop ?_
    rw [Around.under_plainId plain_loop]
    unfold Builtin.«re.Pattern.sub.loop»
    refine wpAny_bind (re_target (hP.keeps F.keep) ?_)
    refine ite_f (by rfl) ?_
    refine wpAny_bind (m := (if ((0 : Int) != 0 && decide ((n : Int) ≥ 0)) = true then pure none else reNextFound (tgt l u) (p : Int).toNat false)) ?_
    refine ite_f (by rfl) ?_
    rw [Int.toNat_natCast]
    cases e : firstAmp l p with
    | none =>
      refine find_none e ?_
      dsimp only
      have hpl := firstAmp_none_plain e
      split
      · refine wpAny_bind (re_slice (by omega) fun k1 => ?_)
        refine wpAny_bind (upd_news (s := { s with toks := k1 + 1 }) F N hap (by omega) fun h2 F2 N2 => ?_)
        refine loop_tail (zs := zs ++ [(l.drop p).take (l.length - p)]) hz F2 N2 (by rw [List.map_append]; exact strs_snoc hus) (by simp; omega) ?_ fun h' tk u' F9 N9 => ret h' tk u' F9 N9
        have e1 : (l.drop p).take (l.length - p) = l.drop p := by rw [List.take_of_length_le]; simp
        rw [e1, List.flatten_append, hzs]
        have e2 := escAmp_app (l.take p) (l.drop p)
        rw [List.take_append_drop, escAmp_plain _ hpl] at e2
        rw [e2]; simp
      · rename_i hlt
        have hpe : p = l.length := by
          have : ¬ p < l.length := hlt
          omega
        refine loop_tail hz F N hus (by omega) ?_ fun h' tk u' F9 N9 => ret h' tk u' F9 N9
        rw [hzs, hpe, List.take_length]
    | some q =>
      refine find_some e fun m hm => ?_
      obtain ⟨hpq, hql, haq, hmid⟩ := firstAmp_some_facts e
      dsimp only
      have hst := hm.start
      have e3 : escAmp (l.take q) = escAmp (l.take p) ++ (l.drop p).take (q - p) := by
        have e4 : l.take q = l.take p ++ (l.drop p).take (q - p) := by
          rw [← List.take_add, show p + (q - p) = q by omega]
        rw [e4, escAmp_app, escAmp_plain _ hmid]
      split
      · refine wpAny_bind (re_slice (by omega) fun k1 => ?_)
        refine wpAny_bind (upd_news (s := { s with toks := k1 + 1 }) F N hap (by omega) fun h2 F2 N2 => ?_)
        refine loop_turn (zs := zs ++ [(l.drop p).take (m.start - p)]) hz hlam hm hql haq hap F2 N2 (by rw [List.map_append]; exact strs_snoc hus) (by simp; omega) ?_ fun h' tk k' us' zs' a b c d e => ?_
        · rw [e3, List.flatten_append, hzs, hst]; simp
        · exact sub_loop hz hlam hP hap N' (q + 1) (n + 1) k' us' zs' _ (by omega) (by omega) a b c d e fun h' tk u' F9 N9 => ret h' tk u' F9 N9
      · rename_i hlt
        have hpe : p = q := by
          have : ¬ p < m.start := hlt
          omega
        refine loop_turn (zs := zs) hz hlam hm hql haq hap F N hus (by omega) ?_ fun h' tk k' us' zs' a b c d e => ?_
        · rw [hzs, hpe]
        · exact sub_loop hz hlam hP hap N' (q + 1) (n + 1) k' us' zs' _ (by omega) (by omega) a b c d e fun h' tk u' F9 N9 => ret h' tk u' F9 N9
end
end
section

section
open PySem.Builtin PySem.Builtin.Re
variable {w : World} {A : Around} {E : Value → Shared → Prop} {s : Shared}
theorem re_named (f : Addr) (x : Str) (u : Tok) : reNamed "re.Pattern.sub" "sub" ["repl", "string", "count"] 2 [.ref f, .str x u] [] = pure [some (.ref f), some (.str x u), none] := by kernel_rfl
theorem re_not_held (x : Str) (u : Tok) : reNotHeld "re.Pattern.sub" (.str x u) = pure () := by
  unfold reNotHeld
  have e : isInstance (.str x u) (.type "bytearray") = pure false := sub_str_bytearray
  rw [e]
  rfl
theorem sub_call {h₀ : Heap} {L : Addr} {mm : Str → Option Value} {led : List (Addr × Obj)} {f : Addr} {l : List Nat} {u : Tok} {o : Obj} {Q : Value → Shared → Prop} (hz : l.length ≤ 10000) (hP : PatAt h₀) (F : Fr h₀ L s.heap mm) (N : News h₀ L s.heap led) (hf0 : (f, o) ∈ led) (hfc : o.cls = .type "function") (hlam : LamOk w A.in1 f l u h₀ L mm led)
    (h : ∀ h' tk u', Fr h₀ L h' mm → News h₀ L h' led → Q (.str ⟨(escAmp l).toArray⟩ u') { s with heap := h', toks := tk }) :
    wpAny (model PySem.Challenge.pw_rx0107_01 w) A (call (.builtin "re.Pattern.sub") [.ref 36, .ref f, .str ⟨l.toArray⟩ u]) Q E s := by
  have hPs : PatAt s.heap := hP.keeps F.keep
  have hf := (N _ hf0).1
  have hT : s.TypeIs (.ref 36) "re.Pattern" := ⟨_, hPs.p, rfl⟩
  have hTf : s.TypeIs (.ref f) "function" := ⟨_, hf, hfc⟩
  refine wpAny_call (codeAny_call_builtin slot_pat_sub.plain entry_pat_sub (slot_pat_sub.check _ _ _ _ _ _ _ _ hT (args_pat_sub _ _ _) ?_))
  unfold Builtin.«re.Pattern.sub» reSubstitute
  refine wpAny_bind (wpAny_of_eq (re_named f ⟨l.toArray⟩ u) ?_)
  dsimp only
  refine wpAny_bind (wpAny_pure ?_)
  refine wpAny_bind (wpAny_specialOf hTf lk_fn_call ?_)
  simp only [Option.isSome_some, if_true]
  refine wpAny_bind (wpAny_pure ?_)
  refine wpAny_bind (wpAny_pure ?_)
  dsimp only
  refine wpAny_bind (wpAny_holding (re_target hPs ?_))
  simp only [beq_self_eq_true, if_true]
  refine wpAny_bind (wpAny_of_eq (re_not_held ⟨l.toArray⟩ u) ?_)
  refine wpAny_bind (wpAny_newList ?_ (by rw [sizeLine_eq]; decide))
  refine wpAny_pure ⟨plainId_quiet plain_loop _, ?_⟩
  exact sub_loop hz hlam hP (fun p hp => Nat.ne_of_lt (Heap.lt_size (N p hp).1)) (l.length + 1) 0 0 0 [] [] _ (by omega) (by omega) (F.push _) (N.push F _) .nil (by simp) (by simp [escAmp]) fun h' tk u' F' N' => h h' tk u' F' N'
theorem meth_sub {Q : Value × List Value → Shared → Prop} {pl : Sem Bool} (hP : PatAt s.heap) (h : Q (.builtin "re.Pattern.sub", [.ref 36]) s) : wpAny (model PySem.Challenge.pw_rx0107_01 w) A (getMethod (.ref 36) "sub" pl) Q E s :=
  getMethod_builtin ⟨_, hP.p, rfl⟩ plain_pat slot_pat_sub type_pat_sub (fun a e => by cases e; exact ⟨_, hP.p, rfl⟩) h
theorem meth_group {mt T : Addr} {l : List Nat} {u : Tok} {Q : Value × List Value → Shared → Prop} {pl : Sem Bool} (hm : s.heap.get? mt = some (matchO l u T)) (h : Q (.builtin "re.Match.group", [.ref mt]) s) : wpAny (model PySem.Challenge.pw_rx0107_01 w) A (getMethod (.ref mt) "group" pl) Q E s :=
  getMethod_builtin ⟨_, hm, rfl⟩ plain_match slot_match_group type_match_group (fun a e => by cases e; exact ⟨_, hm, rfl⟩) h
theorem wp_eq {α : Type} {M : Model} {t t' : Sem α} {Q : α → Shared → Prop} (e : t = t') (h : wpAny M A t' Q E s) : wpAny M A t Q E s := e ▸ h
theorem group_call {mt T : Addr} {l : List Nat} {u t : Tok} {q : Nat} {Q : Value → Shared → Prop} (hz : l.length ≤ 10000) (hq : q < l.length) (hm : s.heap.get? mt = some (matchO l u T)) (hT : s.heap.get? T = some (spanO q))
    (h : ∀ k, Q (.str ⟨#[l[q]]⟩ k) { s with toks := k + 1 }) : wpAny (model PySem.Challenge.pw_rx0107_01 w) A (call (.builtin "re.Match.group") [.ref mt, .int 1 t]) Q E s := by
  refine call_tree slot_match_group ⟨_, hm, rfl⟩ entry_match_group (args_match_group _ _) ?_
  unfold Builtin.«re.Match.group»
  refine wpAny_bind (m := noKeywords "Match.group" _) (wpAny_pure ?_)
  dsimp only
  unfold reFound
  refine wpAny_bind (wpAny_bind (wpAny_fieldsOf hm rfl ?_))
  unfold reRawItems
  refine wpAny_bind (wpAny_bind (wpAny_seqItems (a := T) hT rfl (wpAny_pure ?_)))
  refine wpAny_pure ?_
  refine wpAny_bind (wpAny_of_eq (a := 1) (by kernel_rfl) ?_)
  refine wpAny_bind ?_
  refine wp_eq (t' := (if (decide ((q : Int) < 0) || decide (((q + 1 : Nat) : Int) < 0)) = true then pure Value.none else reTextOf (.str ⟨l.toArray⟩ u) >>= fun x => reSlice x.1 x.2 (q : Int).toNat ((q + 1 : Nat) : Int).toNat)) (by kernel_rfl) ?_
  refine ite_f (by simp; omega) ?_
  refine wpAny_bind (m := reTextOf (.str ⟨l.toArray⟩ u)) (wpAny_of_eq (a := (l.toArray, 0)) rfl ?_)
  refine re_slice (by omega) fun k => ?_
  refine wpAny_pure ⟨_, rfl, ?_⟩
  have e : (l.drop (q : Int).toNat).take (((q + 1 : Nat) : Int).toNat - (q : Int).toNat) = [l[q]] := by
    rw [Int.toNat_natCast, Int.toNat_natCast, show q + 1 - q = 1 by omega, List.drop_eq_getElem_cons hq]
    rfl
  show Q (.str ⟨((l.drop (q : Int).toNat).take (((q + 1 : Nat) : Int).toNat - (q : Int).toNat)).toArray⟩ k) _
  rw [e]
  exact h k
end
end
section

structure TS (pos : Pos) (qual : Str) (ps : Array Value) (led : List (Addr × Obj)) : Prop where
  tr : TriplesOk ps.toList
  hit : codeAmong pos ps.toList = none ∨ ∃ c' oc vs t, codeAmong pos ps.toList = some (.ref c') ∧ (c', oc) ∈ led ∧ oc.data = .fields vs ∧ vs[1]? = some (.str qual t)
theorem TS.mono {pos : Pos} {qual : Str} {ps : Array Value} {led led' : List (Addr × Obj)} (x : TS pos qual ps led) (h : ∀ p ∈ led, p ∈ led') : TS pos qual ps led' :=
  ⟨x.tr, x.hit.imp id fun ⟨c', oc, vs, t, a, b, d, e⟩ => ⟨c', oc, vs, t, a, h _ b, d, e⟩⟩
theorem TS.nil {pos : Pos} {qual : Str} {led : List (Addr × Obj)} : TS pos qual #[] led := ⟨trivial, .inl rfl⟩
theorem triples_snoc (l : List Value) (h : TriplesOk l) (a b : Int) (c : Value) : TriplesOk (l ++ [rawInt a, rawInt b, c]) := by
  fun_induction TriplesOk l with
  | case1 => trivial
  | case2 i t j u c' r ih => exact ih h
  | case3 => exact h.elim
section
variable {M : Model} {A : Around} {E : Value → Shared → Prop} {s : Shared} {h₀ : Heap} {L a c P : Addr} {m mg mb : Str → Option Value} {cn : Str} {cs : Scope} {ccd : Value} {cl : List (Str × Addr)} {led : List (Addr × Obj)} {g : Obj → List (Addr × Obj)}
  {p : Program} {loose : List Str} {mean : ExcName → Option Value} {name qual : Str} {params : Arguments} {body : PySem.Expr} {scope : Scope} {ps : Array Value} {pos : Pos} {firstLine : Nat} {clos : List (Str × Addr)}
theorem lam_made {Q : Value → Shared → Prop} (F : Fr h₀ L s.heap m) (N : News h₀ L s.heap led) (T : Top p loose mean mg mb h₀) (C : CodeHd h₀ c P) (hcd : ccd = .ref c) (U : UpdF P (tabObj ps) led g) (ts : TS pos qual ps led)
    (hcl : closureFor scope (envX cn cs L a ccd cl) = pure clos)
    (h : ∀ f c' oc vs t ctv ex ps' h' tk, Fr h₀ L h' m → News h₀ L h' ((f, kla_obj name qual params body scope clos ((mg "__name__").getD .none) c' ctv) :: (ex ++ g (tabObj ps'))) → (c', oc) ∈ ex ++ g (tabObj ps') → oc.data = .fields vs → vs[1]? = some (.str qual t) →
      TS pos qual ps' (ex ++ g (tabObj ps')) → (∀ q ∈ led, q.1 < f) → (∀ q ∈ led, ∀ p ∈ ex, q.1 < p.1) → Q (.ref f) { s with heap := h', toks := tk }) :
    wpAny M A (makeFunction name qual params (.expr body) scope (envX cn cs L a ccd cl) [] [] [] pos firstLine) Q E s := by
  obtain ⟨pre, post, hl, hg, h1, h2⟩ := U.split
  rcases ts.hit with hn | ⟨c', oc, vs, t, e1, e2, e3, e4⟩
  · refine kla_nest F N T C hcd U ts.tr hn hcl fun f c' oc vs t ctv h' tk F' N' d1 d2 l1 l2 => ?_
    refine h f c' oc vs t ctv [(c', oc)] (ps ++ #[rawInt pos.line, rawInt pos.col, .ref c']) h' tk F' N' (.head _) d1 d2 ⟨?_, ?_⟩ (fun q hq => Nat.lt_trans (l1 q hq) l2) (fun q hq p hp => by rw [List.mem_singleton.mp hp]; exact l1 q hq)
    · rw [Array.toList_append]; exact triples_snoc _ ts.tr _ _ _
    · refine .inr ⟨c', oc, vs, t, ?_, .head _, d1, d2⟩
      rw [Array.toList_append]; exact codeAmong_snoc _ ts.tr hn
  · have hm : (P, tabObj ps) ∈ led := by rw [hl]; exact List.mem_append_right _ (.head _)
    have hgl : g (tabObj ps) = led := by rw [hg, hl]
    refine kla_hit F N T C hcd hm ts.tr e1 hcl fun f ctv h' tk F' N' l1 => ?_
    refine h f c' oc vs t ctv [] ps h' tk F' (by rw [List.nil_append, hgl]; exact N') (by rw [List.nil_append, hgl]; exact e2) e3 e4 (by rw [List.nil_append, hgl]; exact ts) l1 (fun q _ p hp => nomatch hp)
end
theorem codeHd61 {w : World} {h : Heap} (X : (K w.params).In h) : CodeHd h 61 57 :=
  ⟨ob61, _, Str.ofString "/claim/cut.py", 505, 3, 0, true, 276, 0, X 61 _ rfl, rfl, rfl, rfl, rfl, rfl, rfl, rfl, rfl, by decide⟩
end
section

noncomputable def lamOf : List Stmt → Option PySem.Expr
  | [_, _, _, .While _ [_, _, .If _ _ [.If _ _ [.If _ b _ _] _] _] _ _, _, _] => match b with
    | [_, _, _, _, .If _ _ (_ :: _ :: .Assign _ (.Call _ (e :: _) _ _) _ :: _) _] => some e
    | _ => none
  | _ => none
noncomputable def lamAr0 : Option PySem.Expr → Arguments
  | some (.Lambda a _ _ _) => a
  | _ => ⟨[], [], none, [], [], none, []⟩
noncomputable def lamBd0 : Option PySem.Expr → PySem.Expr
  | some (.Lambda _ b _ _) => b
  | _ => .Constant .none 0 default
noncomputable def lamSc0 : Option PySem.Expr → Scope
  | some (.Lambda _ _ s _) => s
  | _ => { kind := .module, names := [], isGenerator := false, isCoroutine := false, more := [] }
noncomputable def lamPs0 : Option PySem.Expr → Pos
  | some (.Lambda _ _ _ p) => p
  | _ => default
@[reducible] noncomputable def lamAr : Arguments := by
  refine Subtype.val (p := fun b => b = lamAr0 (lamOf (fnBd (stm 8)))) ⟨?b, ?h⟩
  rotate_left
  · conv => rhs; whnf
@[reducible] noncomputable def lamBd : PySem.Expr := by
  refine Subtype.val (p := fun b => b = lamBd0 (lamOf (fnBd (stm 8)))) ⟨?b, ?h⟩
  rotate_left
  · conv => rhs; whnf
@[reducible] noncomputable def lamSc : Scope := by
  refine Subtype.val (p := fun b => b = lamSc0 (lamOf (fnBd (stm 8)))) ⟨?b, ?h⟩
  rotate_left
  · conv => rhs; whnf
@[reducible] noncomputable def lamPs : Pos := by
  refine Subtype.val (p := fun b => b = lamPs0 (lamOf (fnBd (stm 8)))) ⟨?b, ?h⟩
  rotate_left
  · conv => rhs; whnf
#print lamAr
#print lamBd
#print lamSc
#print lamPs
end
section

set_option maxHeartbeats 1000000 in
theorem lam_ok {w : World} {A A₀ : Around} {env : Env} {outer : List Env} {base h₀ : Heap} {L f c' : Addr} {m mg mb : Str → Option Value} {led : List (Addr × Obj)} {p : Program} {loose : List Str} {mean : ExcName → Option Value} {name qual : Str} {pm ctv : Value} {oc : Obj} {vs : Array Value} {t : Tok} {l : List Nat} {u : Tok}
    (hz : l.length ≤ 10000) (B : Below A₀ base outer h₀) (X : (K w.params).In h₀) (T : Top p loose mean mg mb h₀) (hA : A.frames = some (env :: outer)) (hf : env.frame = some L) (hke : env.scope.kind = .function)
    (ho : (f, kla_obj name qual lamAr lamBd lamSc [] pm c' ctv) ∈ led) (hc : (c', oc) ∈ led) (hd : oc.data = .fields vs) (hv : vs[1]? = some (.str qual t)) (hroom : A.depth < recursionLimit) : LamOk w A f l u h₀ L m led := by
  intro s Q E mt T' D q k us hq F2 N2 ret
  have hcr : s.heap.CodeRec (.ref c') qual := codeRec_news N2 (.tail _ (.tail _ (.tail _ hc))) hd hv
  refine wpAny_call ?_
  refine kla_code B F2 X N2 T hA hf hke (.tail _ (.tail _ (.tail _ ho))) hcr hroom rfl (locs rfl) ?_ rfl rfl rfl (by decide)
  intro g' L' h' FG' F' N' B' X' T''
  dsimp only
  (repeat' (first | (k_unfold; (try dsimp only)) | (k_end; wrow_close) | ((with_reducible show wpAny _ _ (call (Value.builtin "re.Match.group") _) _ _ _); (k_here; (rename News _ _ _ _ => nN9); (refine' group_call ?z9 ?q9 ?m9 ?t9 ?_; (case m9 => exact (nN9 _ (.head _)).1); (case t9 => exact (nN9 _ (.tail _ (.head _))).1); (case z9 => assumption); (case q9 => assumption)); intro k9; (try dsimp only))) | (k_here; (with_reducible show wpAny _ _ (getMethod (Value.ref _) _ _) _ _ _); (rename News _ _ _ _ => nN9); (refine' meth_group ?hm9 ?_; (case hm9 => exact (nN9 _ (.head _)).1)); (try dsimp only)) | walk1 | (dsimp only; first | ((with_reducible show wpAny _ _ (call (Value.builtin "re.Match.group") _) _ _ _); (k_here; (rename News _ _ _ _ => nN9); (refine' group_call ?z9 ?q9 ?m9 ?t9 ?_; (case m9 => exact (nN9 _ (.head _)).1); (case t9 => exact (nN9 _ (.tail _ (.head _))).1); (case z9 => assumption); (case q9 => assumption)); intro k9; (try dsimp only))) | (k_here; (with_reducible show wpAny _ _ (getMethod (Value.ref _) _ _) _ _ _); (rename News _ _ _ _ => nN9); (refine' meth_group ?hm9 ?_; (case hm9 => exact (nN9 _ (.head _)).1)); (try dsimp only)) | walk1) | (leave1; walk_say "STEP leave1"; try dsimp only) | fail "no step"))
  · rename_i Tf Xf
    rename Fr h₀ L _ m => Ff
    rename News h₀ L _ ((mt, matchO l u T') :: (T', spanO q) :: (D, listOf us.toArray k) :: led) => Nf
    exact ret _ h' _ Ff fun p hp => Nf p (.tail _ (.tail _ hp))
  · rename (PySem.Str.length _ : Int) = 0 => h0
    exact absurd h0 (by simp [PySem.Str.length])
end
section

theorem chr_at {l : List Nat} {i : Int} {c : Nat} (h0 : 0 ≤ i) (hx : l[i.toNat]? = some c) : Txt.item ⟨l.toArray⟩ i = ⟨#[c]⟩ := by
  have hl : i.toNat < l.length := (List.getElem?_eq_some_iff.mp hx).1
  unfold Txt.item Txt.charAt
  rw [PySem.StrLaws.seqIndex_nonneg h0 (by show i < ((l.toArray.size : Nat) : Int); simp; omega)]
  simp [hx]
theorem slice_of {l : List Nat} {i j : Int} (h0 : 0 ≤ i) (h1 : i ≤ j) (h2 : j ≤ l.length) : Txt.slice ⟨l.toArray⟩ (some i) (some j) = ⟨((l.drop i.toNat).take (j.toNat - i.toNat)).toArray⟩ := by
  obtain ⟨a, rfl⟩ := Int.eq_ofNat_of_zero_le h0
  obtain ⟨b, rfl⟩ := Int.eq_ofNat_of_zero_le (Int.le_trans h0 h1)
  have := PySem.StrLaws.sliceText_nat (⟨l.toArray⟩ : Str) (a := a) (b := b) (by omega) (by show b ≤ l.toArray.size; simp; omega)
  simp only [Int.ofNat_eq_natCast, Int.toNat_natCast]
  exact this
theorem slice_tail {l : List Nat} {i : Int} (h0 : 0 ≤ i) (h2 : i ≤ l.length) : Txt.slice ⟨l.toArray⟩ (some i) none = ⟨(l.drop i.toNat).toArray⟩ := by
  have := PySem.StrLaws.sliceText_from (x := (⟨l.toArray⟩ : Str)) (i := i) ⟨h0, by simpa using h2⟩
  have e : ((l.length : Int) - i).toNat = (l.drop i.toNat).length := by rw [List.length_drop]; omega
  simp only [e] at this
  rw [List.take_length] at this
  exact this
theorem has_one (l : List Nat) (c : Nat) : Txt.contains ⟨l.toArray⟩ ⟨#[c]⟩ = l.contains c := by
  have := PySem.StrLaws.found_one (⟨l.toArray⟩ : Str) c
  unfold Txt.contains
  rw [this]
  simp
noncomputable def dblB (l : List Nat) : List Nat := PySem.StrLaws.dbl 92 l
theorem repl_back (l : List Nat) : Txt.replace ⟨l.toArray⟩ (Str.ofString "\\") (Str.ofString "\\\\") = ⟨(dblB l).toArray⟩ := by
  have := PySem.StrLaws.replace_double (⟨l.toArray⟩ : Str) 92
  rw [show Str.ofString "\\" = ⟨#[92]⟩ by decide +kernel, show Str.ofString "\\\\" = ⟨#[92, 92]⟩ by decide +kernel]
  apply Str.ext'
  apply Array.toList_inj.mp
  rw [this]
  rfl
theorem dblB_len (l : List Nat) : (dblB l).length ≤ 2 * l.length := by
  unfold dblB
  induction l with
  | nil => simp [PySem.StrLaws.dbl]
  | cons k r ih => unfold PySem.StrLaws.dbl; split <;> (simp; omega)
theorem one_eq (a b : Nat) : ((⟨#[a]⟩ : Str) == ⟨#[b]⟩) = decide (a = b) := by
  rw [Bool.eq_iff_iff]; simp
section
variable {prog : Program} {w : World} {A : Around} {E : Value → Shared → Prop} {s : Shared} {value slice : PySem.Expr} {l : List Nat} {t : Tok} {h₀ : Heap} {L : Addr} {m : Str → Option Value} {news : List (Addr × Obj)} {Q : Value → Shared → Prop}
theorem item_tx {i : Int} {u : Tok} {c : Nat} (hz : l.length ≤ 100000) (h0 : 0 ≤ i) (hx : l[i.toNat]? = some c) (h : ∀ k, Q (.str ⟨#[c]⟩ k) { s with toks := k + 1 })
    (hs : subscripted slice false (.str ⟨l.toArray⟩ t) (.int i u) = operate [.str ⟨l.toArray⟩ t, .int i u] (getItem (.str ⟨l.toArray⟩ t) (.int i u)) := by with_unfolding_all rfl)
    (ht : ∀ r, letTemporaryGo value (.str ⟨l.toArray⟩ t) r = pure () := by intro _; with_unfolding_all rfl) :
    wpAny (model prog w) A (subscriptTail value slice (.str ⟨l.toArray⟩ t) (.int i u)) Q E s := by
  have hl : i.toNat < l.length := (List.getElem?_eq_some_iff.mp hx).1
  have hln : (⟨l.toArray⟩ : Str).length = l.length := by simp [PySem.Str.length]
  refine item_str (fitsSsize_of (N := 9223372036854775808) (by omega) (by omega) (Int.le_refl _)) (by omega) (by rw [hln]; omega) (fun _ => ?_) hs ht
  rw [chr_at h0 hx]
  exact h _
theorem item_txC {i : Nat} {u : Tok} {c : Nat} (hz : l.length ≤ 100000) (hx : l[i]? = some c) (h : ∀ k, Q (.str ⟨#[c]⟩ k) { s with toks := k + 1 })
    (hs : subscripted slice false (.str ⟨l.toArray⟩ t) (.int (i : Int) u) = operate [.str ⟨l.toArray⟩ t, .int (i : Int) u] (getItem (.str ⟨l.toArray⟩ t) (.int (i : Int) u)) := by with_unfolding_all rfl)
    (ht : ∀ r, letTemporaryGo value (.str ⟨l.toArray⟩ t) r = pure () := by intro _; with_unfolding_all rfl) :
    wpAny (model prog w) A (subscriptTail value slice (.str ⟨l.toArray⟩ t) (.int (i : Int) u)) Q E s := item_tx hz (Int.natCast_nonneg i) hx h hs ht
theorem item_txD {i : Nat} {u : Tok} {c : Nat} (hz : l.length ≤ 100000) (hx : l[((i : Int) + 1).toNat]? = some c) (h : ∀ k, Q (.str ⟨#[c]⟩ k) { s with toks := k + 1 })
    (hs : subscripted slice false (.str ⟨l.toArray⟩ t) (.int ((i : Int) + 1) u) = operate [.str ⟨l.toArray⟩ t, .int ((i : Int) + 1) u] (getItem (.str ⟨l.toArray⟩ t) (.int ((i : Int) + 1) u)) := by with_unfolding_all rfl)
    (ht : ∀ r, letTemporaryGo value (.str ⟨l.toArray⟩ t) r = pure () := by intro _; with_unfolding_all rfl) :
    wpAny (model prog w) A (subscriptTail value slice (.str ⟨l.toArray⟩ t) (.int ((i : Int) + 1) u)) Q E s := item_tx hz (om1 i) hx h hs ht
theorem slice_tx {i j : Int} {ui uj : Tok} (hz : l.length ≤ 100000) (h0 : 0 ≤ i) (h1 : i ≤ j) (h2 : j ≤ l.length) (hF : Fr h₀ L s.heap m) (hN : News h₀ L s.heap news)
    (h : ∀ h' t' k, Fr h₀ L h' m → News h₀ L h' news → Q (.str ⟨((l.drop i.toNat).take (j.toNat - i.toNat)).toArray⟩ t') { s with heap := h', toks := k })
    (hs : subscripted slice false (.str ⟨l.toArray⟩ t) (.ref s.heap.objs.size) = operate [.ref s.heap.objs.size, .str ⟨l.toArray⟩ t] (getItem (.str ⟨l.toArray⟩ t) (.ref s.heap.objs.size)) := by with_unfolding_all rfl)
    (ht : ∀ r, letTemporaryGo value (.str ⟨l.toArray⟩ t) r = pure () := by intro _; with_unfolding_all rfl) :
    wpAny (model prog w) A (subscriptTail value slice (.str ⟨l.toArray⟩ t) (.ref s.heap.objs.size)) Q E { s with heap := s.heap.push { cls := .type "slice", data := .fields #[.int i ui, .int j uj, .none] } } :=
  slice_strN_ss hF hN (fun h' t' k F N => by rw [slice_of h0 h1 h2]; exact h h' t' k F N) hs ht (by rw [sizeLine_eq]; show l.toArray.size ≤ _; simp; omega)
theorem slice_txs {i : Int} {ui : Tok} (hz : l.length ≤ 100000) (h0 : 0 ≤ i) (h2 : i ≤ l.length) (hF : Fr h₀ L s.heap m) (hN : News h₀ L s.heap news)
    (h : ∀ h' t' k, Fr h₀ L h' m → News h₀ L h' news → Q (.str ⟨(l.drop i.toNat).toArray⟩ t') { s with heap := h', toks := k })
    (hs : subscripted slice false (.str ⟨l.toArray⟩ t) (.ref s.heap.objs.size) = operate [.ref s.heap.objs.size, .str ⟨l.toArray⟩ t] (getItem (.str ⟨l.toArray⟩ t) (.ref s.heap.objs.size)) := by with_unfolding_all rfl)
    (ht : ∀ r, letTemporaryGo value (.str ⟨l.toArray⟩ t) r = pure () := by intro _; with_unfolding_all rfl) :
    wpAny (model prog w) A (subscriptTail value slice (.str ⟨l.toArray⟩ t) (.ref s.heap.objs.size)) Q E { s with heap := s.heap.push { cls := .type "slice", data := .fields #[.int i ui, .none, .none] } } :=
  slice_strN_sn hF hN (fun h' t' k F N => by rw [slice_tail h0 h2]; exact h h' t' k F N) hs ht (by rw [sizeLine_eq]; show l.toArray.size ≤ _; simp; omega)
theorem eq_tx {x y : Str} {t u : Tok} (b : Bool) (hb : (x == y) = b) (h : Q (.bool b) s) : wpAny (model prog w) A (compareOp .Eq (.str x t) (.str y u)) Q E s := eq_str (by rw [hb]; exact h)
theorem notin_tx {x y : Str} {t u : Tok} (b : Bool) (hb : Txt.contains x y = b) (h : Q (.bool (!b)) s) : wpAny (model prog w) A (compareOp .NotIn (.str y u) (.str x t)) Q E s :=
  notIn_str (by have := hb; unfold Txt.contains at this; rw [this]; exact h)
theorem len_tx (hz : l.length ≤ 100000) (h : Q (.int (l.length : Nat) (s.toks + 1)) { s with toks := s.toks + 1 + 1 }) : wpAny (model prog w) A (call (.builtin "len") [.str ⟨l.toArray⟩ t]) Q E s := by
  have hln : (⟨l.toArray⟩ : Str).length = l.length := by simp [PySem.Str.length]
  refine PyProof.Rows.len_str (by rw [hln]; omega) ?_
  rw [hln]; exact h
theorem item_last {D : Addr} {vs : List Value} {n : Nat} {u : Tok} {v : Value} (N : News h₀ L s.heap news) (hm : (D, listOf vs.toArray n) ∈ news) (hv : vs.getLast? = some v) (h : Q v s)
    (hs : subscripted slice false (.ref D) (.int (-1) u) = operate [.ref D, .int (-1) u] (getItem (.ref D) (.int (-1) u)) := by with_unfolding_all rfl) :
    wpAny (model prog w) A (subscriptTail value slice (.ref D) (.int (-1) u)) Q E s := by
  have hpos : 0 < vs.length := by
    cases vs with
    | nil => cases hv
    | cons a r => simp
  refine kde_neg (j := vs.length - 1) (news_list N hm) (by decide) (by decide) (seqIndex?_neg_one hpos) ?_ h hs
  rw [← hv, List.getLast?_eq_getElem?]
theorem truthy_some {D : Addr} {vs : List Value} {n : Nat} {Q : Bool → Shared → Prop} (N : News h₀ L s.heap news) (hm : (D, listOf vs.toArray n) ∈ news) (hz : vs.length ≤ 100000) (hpos : 0 < vs.length) (h : Q true { s with toks := s.toks + 1 + 1 }) : wpAny (model prog w) A (truthy (.ref D)) Q E s :=
  wpAny_truthy_list (news_list N hm) (by simp only [List.size_toArray]; omega) (by
    have e : (!vs.toArray.isEmpty) = true := by
      cases vs with
      | nil => simp at hpos
      | cons a r => rfl
    rw [e]; exact h)
theorem ne_tx {x y : Str} {t u : Tok} {Q : Value → Shared → Prop} (b : Bool) (hb : (x == y) = b) (h : Q (.bool (!b)) s) : wpAny (model prog w) A (compareOp .NotEq (.str x t) (.str y u)) Q E s := ne_str (by
  have e : (x != y) = !b := by rw [← hb]; rfl
  rw [e]; exact h)
theorem slice_txY {Y : List Nat} {i j : Int} {ui uj : Tok} (hY : (l.drop i.toNat).take (j.toNat - i.toNat) = Y) (hz : l.length ≤ 100000) (h0 : 0 ≤ i) (h1 : i ≤ j) (h2 : j ≤ l.length) (hF : Fr h₀ L s.heap m) (hN : News h₀ L s.heap news)
    (h : ∀ h' t' k, Fr h₀ L h' m → News h₀ L h' news → Q (.str ⟨Y.toArray⟩ t') { s with heap := h', toks := k })
    (hs : subscripted slice false (.str ⟨l.toArray⟩ t) (.ref s.heap.objs.size) = operate [.ref s.heap.objs.size, .str ⟨l.toArray⟩ t] (getItem (.str ⟨l.toArray⟩ t) (.ref s.heap.objs.size)) := by with_unfolding_all rfl)
    (ht : ∀ r, letTemporaryGo value (.str ⟨l.toArray⟩ t) r = pure () := by intro _; with_unfolding_all rfl) :
    wpAny (model prog w) A (subscriptTail value slice (.str ⟨l.toArray⟩ t) (.ref s.heap.objs.size)) Q E { s with heap := s.heap.push { cls := .type "slice", data := .fields #[.int i ui, .int j uj, .none] } } := by
  subst hY
  exact slice_tx hz h0 h1 h2 hF hN h hs ht
theorem notin_dash {Y : List Nat} {t u : Tok} (hY : 45 ∉ Y) (h : Q (.bool true) s) : wpAny (model prog w) A (compareOp .NotIn (.str (Str.ofString "-") u) (.str ⟨Y.toArray⟩ t)) Q E s := by
  refine notin_tx false ?_ h
  rw [show Str.ofString "-" = ⟨#[45]⟩ by decide +kernel, has_one]
  simpa using hY
theorem repl_tx {Y : List Nat} {t : Tok} {u v : Nat} (hu : 0 < u) (hv : 0 < v) (huv : u ≠ v) (hz : Y.length ≤ 2000) (h : ∀ t' k, Q (.str ⟨(dblB Y).toArray⟩ t') { s with toks := k }) :
    wpAny (model prog w) A (call (.builtin "str.replace") [.str ⟨Y.toArray⟩ t, .str (Str.ofString "\\") u, .str (Str.ofString "\\\\") v]) Q E s :=
  SC.replaceW (Nat.ne_of_gt hu) (Nat.ne_of_gt hv) huv (by decide +kernel) (by show Y.toArray.size ≤ _; simp; omega) (by decide +kernel) fun t' k => by rw [repl_back]; exact h t' k
end
end
section

noncomputable def sc0 (r : List Nat) : Nat := if r[0]? = some 33 then 1 else 0
noncomputable def sc1 (r : List Nat) : Nat := if r[sc0 r]? = some 93 then sc0 r + 1 else sc0 r
noncomputable def shutAt (r : List Nat) : Option Nat := ((r.drop (sc1 r)).findIdx? (· == 93)).map (· + sc1 r)
noncomputable def escB (x : List Nat) : List Nat := escAmp (dblB x)
noncomputable def brk (x : List Nat) : List Nat :=
  if (escB x)[0]? = some 33 then [91, 94] ++ (escB x).drop 1 ++ [93]
  else if (escB x)[0]? = some 94 ∨ (escB x)[0]? = some 91 then [91, 92] ++ escB x ++ [93]
  else [91] ++ escB x ++ [93]
theorem shutAt_facts {r : List Nat} {j : Nat} (h : shutAt r = some j) : sc1 r ≤ j ∧ r[j]? = some 93 ∧ ∀ k, sc1 r ≤ k → k < j → r[k]? ≠ some 93 := by
  unfold shutAt at h
  obtain ⟨a, ha, rfl⟩ := Option.map_eq_some_iff.mp h
  obtain ⟨h1, h2, h3⟩ := List.findIdx?_eq_some_iff_getElem.mp ha
  rw [List.length_drop] at h1
  refine ⟨by omega, ?_, ?_⟩
  · rw [List.getElem_drop] at h2
    have h4 : r[sc1 r + a] = 93 := by simpa using h2
    rw [List.getElem?_eq_getElem (by omega)]
    simp only [Nat.add_comm a]
    rw [h4]
  · intro k hk1 hk2 e
    obtain ⟨d, rfl⟩ := Nat.exists_eq_add_of_le hk1
    have h4 := h3 d (by omega)
    rw [List.getElem_drop] at h4
    obtain ⟨h5, h6⟩ := List.getElem?_eq_some_iff.mp e
    simp only [h6] at h4
    exact h4 rfl
theorem shutAt_lt {r : List Nat} {j : Nat} (h : shutAt r = some j) : j < r.length := (List.getElem?_eq_some_iff.mp (shutAt_facts h).2.1).1
noncomputable def transL (b : Bool) : List Nat → List Pt
  | [] => []
  | c :: r =>
    if c = 42 then (if b then [] else [none]) ++ transL true r
    else if c = 63 then some [46] :: transL false r
    else if c = 91 then
      match h : shutAt r with
      | none => some [92, 91] :: transL false r
      | some j => some (brk (r.take j)) :: transL false (r.drop (j + 1))
    else some (esc c) :: transL false r
  termination_by l => l.length
  decreasing_by all_goals (simp; try omega)
theorem tr_nil (b : Bool) : transL b [] = [] := by rw [transL]
theorem tr_star (b : Bool) (r : List Nat) : transL b (42 :: r) = (if b then [] else [none]) ++ transL true r := by rw [transL]; simp
theorem tr_any (b : Bool) (r : List Nat) : transL b (63 :: r) = some [46] :: transL false r := by rw [transL]; simp
theorem tr_open {r : List Nat} (b : Bool) (h : shutAt r = none) : transL b (91 :: r) = some [92, 91] :: transL false r := by
  rw [transL]
  simp only [show ¬ (91 : Nat) = 42 by decide, show ¬ (91 : Nat) = 63 by decide, if_false, if_true]
  split
  · rfl
  · rename_i h2; rw [h] at h2; cases h2
theorem tr_shut {r : List Nat} {j : Nat} (b : Bool) (h : shutAt r = some j) : transL b (91 :: r) = some (brk (r.take j)) :: transL false (r.drop (j + 1)) := by
  rw [transL]
  simp only [show ¬ (91 : Nat) = 42 by decide, show ¬ (91 : Nat) = 63 by decide, if_false, if_true]
  split
  · rename_i h2; rw [h] at h2; cases h2
  · rename_i j2 h2; rw [h] at h2; cases h2; rfl
theorem tr_else {c : Nat} (b : Bool) (r : List Nat) (h1 : c ≠ 42) (h2 : c ≠ 63) (h3 : c ≠ 91) : transL b (c :: r) = some (esc c) :: transL false r := by rw [transL]; simp [h1, h2, h3]
theorem shut_none {x : List Nat} {i : Nat} (h : ∀ k, i + sc1 (x.drop i) ≤ k → k < x.length → x[k]? ≠ some 93) : shutAt (x.drop i) = none := by
  cases e : shutAt (x.drop i) with
  | none => rfl
  | some j =>
    obtain ⟨h1, h2, _⟩ := shutAt_facts e
    rw [List.getElem?_drop] at h2
    exact absurd h2 (h _ (by omega) (List.getElem?_eq_some_iff.mp h2).1)
theorem shut_some {x : List Nat} {i j : Nat} (h0 : i + sc1 (x.drop i) ≤ j) (h : ∀ k, i + sc1 (x.drop i) ≤ k → k < j → x[k]? ≠ some 93) (hj : x[j]? = some 93) : shutAt (x.drop i) = some (j - i) := by
  cases e : shutAt (x.drop i) with
  | none =>
    unfold shutAt at e
    have e2 := Option.map_eq_none_iff.mp e
    have e3 := List.findIdx?_eq_none_iff.mp e2
    have := e3 93 (by
      rw [List.drop_drop]
      rw [List.mem_iff_getElem?]
      exact ⟨j - (i + sc1 (x.drop i)), by rw [List.getElem?_drop, show i + sc1 (x.drop i) + (j - (i + sc1 (x.drop i))) = j by omega]; exact hj⟩)
    simp at this
  | some j2 =>
    obtain ⟨h1, h2, h3⟩ := shutAt_facts e
    rw [List.getElem?_drop] at h2
    rcases Nat.lt_trichotomy (i + j2) j with h4 | h4 | h4
    · exact absurd h2 (h _ (by omega) h4)
    · rw [← h4]; congr 1; omega
    · have := h3 (j - i) (by omega) (by omega)
      rw [List.getElem?_drop, show i + (j - i) = j by omega] at this
      exact absurd hj this
theorem dbl_ge (l : List Nat) : l.length ≤ (dblB l).length := by
  unfold dblB
  induction l with
  | nil => simp
  | cons k r ih => unfold PySem.StrLaws.dbl; split <;> (simp; omega)
theorem escAmp_ge (l : List Nat) : l.length ≤ (escAmp l).length := by
  induction l with
  | nil => simp
  | cons c r ih =>
    have e : escAmp (c :: r) = escA c ++ escAmp r := List.flatMap_cons
    rw [e, List.length_append, List.length_cons]
    have : 1 ≤ (escA c).length := by unfold escA; split <;> simp
    omega
theorem escB_ge (l : List Nat) : l.length ≤ (escB l).length := Nat.le_trans (dbl_ge l) (escAmp_ge _)
theorem escB_le (l : List Nat) : (escB l).length ≤ 4 * l.length := by
  have h1 := escAmp_len (dblB l)
  have h2 := dblB_len l
  unfold escB; omega
theorem stuff_ne {r : List Nat} {j : Nat} (h : shutAt r = some j) : r.take j ≠ [] ∧ r.take j ≠ [33] := by
  obtain ⟨h1, h2, _⟩ := shutAt_facts h
  have hl := shutAt_lt h
  constructor
  · intro e
    have h3 := congrArg List.length e
    rw [List.length_take, List.length_nil] at h3
    have hj : j = 0 := by omega
    subst hj
    unfold sc1 at h1
    have h4 : sc0 r = 0 := by
      unfold sc0; rw [h2]; rfl
    rw [h4, h2] at h1
    simp at h1
  · intro e
    have h3 := congrArg List.length e
    rw [List.length_take, List.length_cons, List.length_nil] at h3
    have hj : j = 1 := by omega
    subst hj
    have h5 : r[0]? = some 33 := by
      have := congrArg (·[0]?) e
      simpa using this
    have h4 : sc0 r = 1 := by unfold sc0; rw [if_pos h5]
    unfold sc1 at h1
    rw [h4, h2] at h1
    simp at h1
theorem escB_ne {y : List Nat} (h1 : y ≠ []) (h2 : y ≠ [33]) : escB y ≠ [] ∧ escB y ≠ [33] := by
  have hg := escB_ge y
  constructor
  · intro e
    rw [e] at hg
    exact h1 (List.length_eq_zero_iff.mp (Nat.le_zero.mp hg))
  · intro e
    rw [e] at hg
    match y, h1, h2, e, hg with
    | [c], _, h2, e, _ =>
      by_cases hc : c = 92
      · subst hc; revert e; decide
      · have e1 : dblB [c] = [c] := by unfold dblB PySem.StrLaws.dbl; rw [if_neg hc]; rfl
        unfold escB at e
        rw [e1] at e
        unfold escAmp at e
        simp only [List.flatMap_cons, List.flatMap_nil, List.append_nil] at e
        unfold escA at e
        split at e
        · simp at e
        · simp at e; exact h2 (by rw [e])
    | _ :: _ :: _, _, _, _, hg => simp at hg
theorem brk_len (y : List Nat) : (brk y).length ≤ 4 * y.length + 4 := by
  have := escB_le y
  unfold brk
  split
  · simp; omega
  · split <;> (simp; omega)
noncomputable def lastS (ps : List Pt) : Bool := match ps.getLast? with
  | some none => true
  | _ => false
theorem lastS_some (ps : List Pt) (y : List Nat) : lastS (ps ++ [some y]) = false := by simp [lastS]
theorem lastS_none (ps : List Pt) : lastS (ps ++ [none]) = true := by simp [lastS]
structure TRI (x : List Nat) (i : Nat) (us : List Value) (S : Value) (ps : List Pt) : Prop where
  le : i ≤ x.length
  pa : PA S us ps
  len : ps.length ≤ i
  eq : ps ++ transL (lastS ps) (x.drop i) = transL false x
theorem PA.last {S : Value} {us : List Value} {ps : List Pt} (h : PA S us ps) {v : Value} (hv : us.getLast? = some v) : (lastS ps = true ∧ v = S) ∨ (lastS ps = false ∧ ∃ (y : List Nat) (u : Tok), v = .str ⟨y.toArray⟩ u) := by
  have hl := h.length
  rw [List.getLast?_eq_getElem?] at hv
  have hpos : us.length - 1 < us.length := (List.getElem?_eq_some_iff.mp hv).1
  have hp : ps.length - 1 < ps.length := by omega
  have e : ps.getLast? = some ps[ps.length - 1] := by rw [List.getLast?_eq_getElem?, List.getElem?_eq_getElem hp]
  cases hq : ps[ps.length - 1] with
  | none =>
    refine .inl ⟨by unfold lastS; rw [e, hq], ?_⟩
    have := h.get_none (i := ps.length - 1) (by rw [List.getElem?_eq_getElem hp, hq])
    rw [← hl, hv] at this
    exact Option.some.inj this
  | some y =>
    refine .inr ⟨by unfold lastS; rw [e, hq], y, ?_⟩
    obtain ⟨u, hu⟩ := h.get_some (i := ps.length - 1) (x := y) (by rw [List.getElem?_eq_getElem hp, hq])
    rw [← hl, hv] at hu
    exact ⟨u, Option.some.inj hu⟩
theorem sc1_le (r : List Nat) : sc1 r ≤ r.length := by
  have h0 : sc0 r ≤ r.length := by
    unfold sc0
    split
    · rename_i h; exact (List.getElem?_eq_some_iff.mp h).1
    · exact Nat.zero_le _
  unfold sc1
  split
  · rename_i h; exact (List.getElem?_eq_some_iff.mp h).1
  · exact h0
end
section

theorem runs_up {M : Model} {Γ : PySem.Ctx} {p : Pos} {t : Sem Fin} {fs : List Frame} {s s' : Shared} {e : End} (h : Runs M Γ p t fs s e s') : s.toks ≤ s'.toks := by
  induction h <;> (first | exact Nat.le_refl _ | assumption | (refine Nat.le_trans ?_ (by assumption); first | exact Nat.le_refl _ | exact Nat.le_succ _) | (simp only [Shared.setGen] at *; omega) | omega)
theorem wakes_up {M : Model} {Γ : PySem.Ctx} {p : Pos} {g : Nat} {r : Resume} {s s' : Shared} {res : GenResult} (h : Wakes M Γ p g r s res s') : s.toks ≤ s'.toks := by
  unfold Wakes at h
  split at h
  · exact h.elim
  · split at h
    · obtain ⟨e₁, s₁, h1, _, _, rfl⟩ := h
      have := runs_up h1
      simp only [Shared.setGen] at *
      omega
    · obtain ⟨_, rfl⟩ := h; exact Nat.le_refl _
    · obtain ⟨_, rfl⟩ := h; exact Nat.le_refl _
  · obtain ⟨e₁, s₁, h1, _, _, rfl⟩ := h
    have := runs_up h1
    simp only [Shared.setGen] at *
    omega
  · obtain ⟨_, rfl⟩ := h; exact Nat.le_refl _
  · obtain ⟨_, rfl⟩ := h; exact Nat.le_refl _
theorem wp_up {X : Type} (M : Model) (Γ : PySem.Ctx) (tree : Sem X) {n : Nat} {post : X → Pos → Shared → Prop} {exc : Value → Pos → Shared → Prop} (pos : Pos) (sh : Shared) (hn : n ≤ sh.toks)
    (known : Sem.wp M Γ tree (fun x p s' => n ≤ s'.toks → post x p s') exc pos sh) : Sem.wp M Γ tree post exc pos sh := by
  revert known
  induction tree generalizing pos sh with
  | pure x => exact fun h => h hn
  | raise v => exact id
  | unsupported | finish | yield | fork | await | register => exact id
  | rule _ k ih | «at» _ k ih | alloc _ k ih | loadIfAlive _ k ih | point _ k ih | ask k ih | os _ _ k ih | handled _ k ih | newGen _ k ih | stack k ih | thread k ih => exact ih _ _ _ hn
  | fresh k ih => exact ih _ _ _ (Nat.le_succ_of_le hn)
  | load a _ k ih | genState a k ih => exact fun ⟨o, ho, h⟩ => ⟨o, ho, ih _ _ _ hn h⟩
  | update a _ f k ih | choose _ _ k ih => exact fun ⟨ha, h⟩ => ⟨ha, ih _ _ _ hn h⟩
  | call c h g l k ih => exact fun ⟨r, s', hr, h⟩ => ⟨r, s', hr, ih _ _ _ (Nat.le_trans hn (runs_up hr)) h⟩
  | resume g r l k ih => exact fun ⟨res, s', hw, h⟩ => ⟨res, s', hw, ih _ _ _ (Nat.le_trans hn (wakes_up hw)) h⟩
theorem wpAny_up {X : Type} {M : Model} {A : Around} {t : Sem X} {Q : X → Shared → Prop} {E : Value → Shared → Prop} {s : Shared} (h : wpAny M A t (fun a s' => s.toks ≤ s'.toks → Q a s') E s) : wpAny M A t Q E s :=
  fun Γ p hΓ => wp_up M Γ t p s (Nat.le_refl _) (h Γ p hΓ)
theorem q_abs {X : Type} {M : Model} {A : Around} {t : Sem X} {Q : X → Shared → Prop} {E : Value → Shared → Prop} {s : Shared} (h : ∀ q : X → Shared → Prop, (∀ f s', Q f s' → q f s') → wpAny M A t q E s) : wpAny M A t Q E s := h Q fun _ _ h => h
end
section

section
variable {prog : Program} {w : World} {A : Around} {E : Value → Shared → Prop} {Q : Flow → Shared → Prop} {s : Shared} {env : Env} {h₀ : Heap} {L : Addr}
/-- while_to, and the tokens never go below those at the start -/
theorem while_toT {σ : Type} {test : PySem.Expr} {body : List Stmt} {pos : Pos} {m₀ : Str → Option Value} (Led : σ → List (Addr × Obj)) (ps : σ → List (Str × Value)) (stored : List Str) (P Ex : σ → Prop) (μ : σ → Nat) (c₀ : σ)
    (F : Fr h₀ L s.heap m₀) (N : News h₀ L s.heap (Led c₀)) (hk : ∀ p ∈ ps c₀, m₀ p.1 = some p.2) (hp : P c₀)
    (turn : ∀ (c : σ) (u : Str → Option Value) h tk, s.toks ≤ tk → P c → Fr h₀ L h (kstB (fun z => if stored.contains z then u z else m₀ z) (ps c)) → News h₀ L h (Led c) →
      wpAny (model prog w) A (isTrue test env (eval test env)) (fun b s₂ =>
        if b = true then wpAny (model prog w) A (execs body env) (KswPost h₀ L s Led ps (fun _ => True) stored m₀ P μ (WEnd h₀ L s Led ps stored m₀ Ex Q) c) E s₂ else WEnd h₀ L s Led ps stored m₀ Ex Q .next s₂) E { s with heap := h, toks := tk })
    (rest : ∀ (c : σ) (u : Str → Option Value) h tk, s.toks ≤ tk → Ex c → Fr h₀ L h (kstB (fun z => if stored.contains z then u z else m₀ z) (ps c)) → News h₀ L h (Led c) → Q .next { s with heap := h, toks := tk })
    (hE : PassesOwn (model prog w) A env E := by passes_own) :
    wpAny (model prog w) A (exec (.While test body [] pos) env) Q E s := by
  refine wpAny_up ?_
  suffices H : wpAny (model prog w) A (exec (.While test body [] pos) env) (WEnd h₀ L s Led ps stored m₀ Ex Q) E s by
    refine wpAny_mono H (fun f s₂ q => ?_) fun _ _ e => e
    cases f with
    | next =>
      obtain ⟨c', h', tk, m', news', rfl, F', N', hn, hk', hr, hp'⟩ := q
      exact fun hle => rest c' m' h' tk hle hp' (ksw_fr hk' hr F') (fun p hp => N' p (hn p hp))
    | brk => exact fun _ => q
    | cont => exact fun _ => q
    | ret v => exact fun _ => q
  refine wpAny_While (codeAny_whileLoop (fun n s' => ∃ h₁ tk₁ m₁ c, s' = { s with heap := h₁, toks := tk₁ } ∧ s.toks ≤ tk₁ ∧ Fr h₀ L h₁ m₁ ∧ News h₀ L h₁ (Led c) ∧ μ c = n ∧ (∀ p ∈ ps c, m₁ p.1 = some p.2) ∧ (∀ z, (∀ p ∈ ps c, z ≠ p.1) → stored.contains z = false → m₁ z = m₀ z) ∧ P c) ?_ (μ c₀) ⟨s.heap, s.toks, m₀, c₀, rfl, Nat.le_refl _, F, N, rfl, hk, fun _ _ _ => rfl, hp⟩)
  rintro n s' ⟨h₁, tk₁, m₁, c, rfl, hle, F₁, N₁, hsz, h1, h2, hp'⟩
  refine wpAny_up (wpAny_mono (turn c m₁ h₁ tk₁ hle hp' (ksw_fr h1 h2 F₁) N₁) (fun b s₂ h₂ => ?_) hE)
  intro hle2
  cases b with
  | false =>
    simp only [Bool.false_eq_true, if_false] at h₂ ⊢
    exact wpAny_execs_nil h₂
  | true =>
    simp only [if_true] at h₂ ⊢
    refine wpAny_up (wpAny_mono h₂ (fun f s₃ q => ?_) hE)
    intro hle3
    rw [← hsz]
    cases f with
    | next =>
      obtain ⟨c', h', tk', m', news', rfl, F', N', hn, _, hk9, hr9, hp9, hm9⟩ := q
      exact ⟨μ c', hm9, h', tk', m', c', rfl, Nat.le_trans hle (Nat.le_trans hle2 hle3), F', fun p hp => N' p (hn p hp), rfl, hk9, hr9, hp9⟩
    | cont =>
      obtain ⟨c', h', tk', m', news', rfl, F', N', hn, _, hk9, hr9, hp9, hm9⟩ := q
      exact ⟨μ c', hm9, h', tk', m', c', rfl, Nat.le_trans hle (Nat.le_trans hle2 hle3), F', fun p hp => N' p (hn p hp), rfl, hk9, hr9, hp9⟩
    | brk => exact q
    | ret v => exact q
theorem cut_toT {σ : Type} {st : Stmt} {m₀ : Str → Option Value} (Led : σ → List (Addr × Obj)) (ps : σ → List (Str × Value)) (stored : List Str) (Mid : σ → Prop) (_F : Fr h₀ L s.heap m₀)
    (h : wpAny (model prog w) A (exec st env) (WEnd h₀ L s Led ps stored m₀ Mid Q) E s)
    (rest : ∀ (c : σ) (u : Str → Option Value) h tk, s.toks ≤ tk → Mid c → Fr h₀ L h (kstB (fun z => if stored.contains z then u z else m₀ z) (ps c)) → News h₀ L h (Led c) → Q .next { s with heap := h, toks := tk }) :
    wpAny (model prog w) A (exec st env) Q E s := by
  refine wpAny_up (wpAny_mono h (fun f s₂ q => ?_) fun _ _ e => e)
  cases f with
  | next =>
    obtain ⟨c', h', tk, m', news', rfl, F', N', hn, hk', hr, hp'⟩ := q
    exact fun hle => rest c' m' h' tk hle hp' (ksw_fr hk' hr F') (fun p hp => N' p (hn p hp))
  | brk => exact fun _ => q
  | cont => exact fun _ => q
  | ret v => exact fun _ => q
end
theorem gen_up {X : Type} {M : Model} {A : Around} {t : Sem X} {Q : X → Shared → Prop} {E : Value → Shared → Prop} {hh : Heap} {gg : Array GenState} {dd : Drawn} {n : Nat} {oo : OsState} (h : ∀ tk, n ≤ tk → wpAny M A t Q E ⟨hh, gg, dd, tk, oo⟩) : wpAny M A t Q E ⟨hh, gg, dd, n, oo⟩ := h n (Nat.le_refl _)
end

section

noncomputable abbrev stz (y : List Nat) : Str := ⟨y.toArray⟩
structure JInv (ps : List Pt) (i : Nat) (us : List Value) (ys : List (List Nat)) : Prop where
  le : i ≤ ps.length
  str : StrsAre us (ys.map stz)
  len : us.length ≤ 2 * i
  eq : ys ++ todo ps i = todo ps 0
noncomputable abbrev JS := Nat × Tok × List Value × List (List Nat) × Nat
noncomputable def NoAdj (ps : List Pt) : Prop := ∀ i, ps[i]? = some none → ps[i + 1]? ≠ some none
set_option maxHeartbeats 2000000 in
theorem c_join (w : World) (ia : Addr) (S : Value) (hS : StarV S) (xs : List Value) (ps : List Pt) (hps : PA S xs ps) (hz : xs.length ≤ 1000) (ht : tot ps ≤ 20000) (hna : NoAdj ps) (n : Nat) : Con w 69 [.ref ia, S] (fun news => (ia, listOf xs.toArray n) ∈ news) 4 40 (fun v tl => tl = [] ∧ ∃ u, v = .str (stz (joinT ps)) u) := by
  intro p loose mean mg mb dp un gd cn cs a ccd cl outer A₀ base h₀ L m news s Q E B F X N T hk hpre hd hu hret
  have hlen : xs.length = ps.length := hps.length
  have hz9 : xs.length ≤ 100000 := Nat.le_trans hz (by decide)
  (refine wpAny_call ?_; k_dflt cell_enter; (try dsimp only [bd3, bd6, bd8, bd9, bd12, bd14, bd16, bd17, bd18, bd19, bd20, bd21, bd22, bd23, ar3, ar6, ar8, ar9, ar12, ar14, ar16, ar17, ar18, ar19, ar20, ar21, ar22, ar23, sc3, sc6, sc8, sc9, sc12, sc14, sc16, sc17, sc18, sc19, sc20, sc21, sc22, sc23] at *); (try simp only [List.map_cons, List.map_nil, List.nil_append, List.append_nil, List.cons_append] at *); (refine let_env ?_); intro A1 e1)
  (repeat' (first | (k_unfold; (try dsimp only)) | (k_end; wrow_close) | ((with_reducible show wpAny _ _ (call (Value.builtin "len") _ _) _ _ _); (k_dflt (refine' len_listN (by k_asm) (by walk_at "mine_mem") (by first | assumption | omega) ?_); (try dsimp only))) | ((with_reducible show wpAny _ _ (getAttr (Value.ref _) _ _) _ _ _); (k_dflt (refine' getattr_append (by k_asm) (by k_asm) (by walk_at "mine_mem") ?_); intro _ _ _ _ _; (try dsimp only))) | walk1 | (dsimp only; first | ((with_reducible show wpAny _ _ (call (Value.builtin "len") _ _) _ _ _); (k_dflt (refine' len_listN (by k_asm) (by walk_at "mine_mem") (by first | assumption | omega) ?_); (try dsimp only))) | ((with_reducible show wpAny _ _ (getAttr (Value.ref _) _ _) _ _ _); (k_dflt (refine' getattr_append (by k_asm) (by k_asm) (by walk_at "mine_mem") ?_); intro _ _ _ _ _; (try dsimp only))) | walk1) | (leave1; walk_say "STEP leave1"; try dsimp only) | fail "no step"))
  unfold StopW
  rename_i FG B1 X1 T1 t0 l h6 l1 h5 t1 q h9 o9 h4 t2 D h3 lD h2 ti h1 tn hh F1 N1
  have hql : q ≠ l := Nat.ne_of_gt (o9 _ (.head _))
  have hnl : ∀ p ∈ news, p.1 ≠ l := fun p hp => Nat.ne_of_lt (l1 p hp)
  refine while_to (σ := JS) (fun c => (q, boundO "list.append" l) :: (l, listOf c.2.2.1.toArray c.2.2.2.2) :: news) (fun c => [(Str.ofString "i", .int c.1 c.2.1)]) []
    (fun c => JInv ps c.1 c.2.2.1 c.2.2.2.1) (fun c => JInv ps c.1 c.2.2.1 c.2.2.2.1 ∧ (c.1 = ps.length ∨ ps[c.1]? = some none)) (fun c => ps.length - c.1) (0, tn, [], [], 0) F1 ?kn ?kk ?kp ?turn ?rest
  case kn => exact fun p hp => N1 p (List.mem_cons_of_mem _ hp)
  case kk => kst_all
  case kp => exact ⟨Nat.zero_le _, .nil, Nat.zero_le _, rfl⟩
  case turn =>
    intro c u h tk hp F2 N2
    clear F1 N1
    obtain ⟨i, ti, us, ys, k⟩ := c
    dsimp only at hp F2 N2 ⊢
    obtain ⟨hi0, hs, hl, he⟩ := hp
    by_cases hi : i < ps.length
    · have hi' : (i : Int) < xs.length := om3 hlen hi
      have hul : us.length ≤ 2000 := om38 hl hi hlen hz
      cases hv : ps[i]'hi with
      | none =>
        have hv' : ps[i]? = some none := by rw [List.getElem?_eq_getElem hi, hv]
        have hx := hps.get_none hv'
        (repeat' (first | (k_unfold; (try dsimp only)) | (k_end; wrow_close) | ((with_reducible show wpAny _ _ (compareOp PySem.CmpOp.IsNot _ _) _ _ _); ((refine isnot_star (by assumption) ?_))) | ((with_reducible show wpAny _ _ (subscriptTail _ _ (Value.ref _) (Value.int _ _)) _ _ _); k_dflt (first | refine' item_listC (by k_asm) (by walk_at "mine_mem") (by assumption) (by assumption) ?_ | refine' item_listD (by k_asm) (by walk_at "mine_mem") (by assumption) (by assumption) ?_); (try dsimp only)) | walk1 | (dsimp only; first | ((with_reducible show wpAny _ _ (compareOp PySem.CmpOp.IsNot _ _) _ _ _); ((refine isnot_star (by assumption) ?_))) | ((with_reducible show wpAny _ _ (subscriptTail _ _ (Value.ref _) (Value.int _ _)) _ _ _); k_dflt (first | refine' item_listC (by k_asm) (by walk_at "mine_mem") (by assumption) (by assumption) ?_ | refine' item_listD (by k_asm) (by walk_at "mine_mem") (by assumption) (by assumption) ?_); (try dsimp only)) | walk1) | (leave1; walk_say "STEP leave1"; try dsimp only) | fail "no step"))
        exact wend (i, ti, us, ys, k) F2 N2 (fun _ h => h) (by kst_all) (by (intro z9 h29 h39; (with_reducible (repeat (first | exact rfl | refine off_st h39 ?_ | refine off_st0 ?_ | refine off_nil ?_ | refine off_ite (by first | exact h29 _ me0 | exact h29 _ me1 | exact h29 _ me2 | exact h29 _ me3 | exact ne_st h39 me0 | exact ne_st h39 me1 | exact ne_st h39 me2) ?_ | refine off_kst (by first | exact h29 _ me0 | exact h29 _ me1 | exact h29 _ me2 | exact h29 _ me3 | exact ne_st h39 me0 | exact ne_st h39 me1 | exact ne_st h39 me2) ?_))); try exact rfl)) ⟨⟨hi0, hs, hl, he⟩, .inr hv'⟩
      | some x =>
        have hv' : ps[i]? = some (some x) := by rw [List.getElem?_eq_getElem hi, hv]
        obtain ⟨ux, hx⟩ := hps.get_some hv'
        (repeat' (first | (k_unfold; (try dsimp only)) | (k_end; wrow_close) | ((with_reducible show KswEnd _ _ _ _ _ _ _ _ _ _ _ _); refine stopW ?_) | (((with_reducible show wpAny _ _ (call (Value.ref _) [_]) _ _ _); k_dflt (refine' bound_append_V (by k_asm) (by k_asm) (by walk_at "mine_mem") (by walk_at "mine_upd") ?_ (by first | exact om24 (b := 2000) (by assumption) (by decide) | exact om24 (b := 1000) (by assumption) (by decide) | walk_at "mine_sz")); intro _ _ N9; (try dsimp only); (try simp only [List.push_toArray] at N9)); (revert N9; intro _)) | ((with_reducible show (_ : Option Obj) = some (boundO _ _) ∧ _); (refine' and_bound (by k_asm) (by walk_at "mine_mem") ?_)) | ((with_reducible show wpAny _ _ (callWith _ (Value.ref _) _ _ _) _ _ _); k_dflt (refine' callWith_bound (id := "list.append") (by k_asm) (by walk_at "mine_mem") ?_)) | ((with_reducible show wpAny _ _ (compareOp PySem.CmpOp.IsNot _ _) _ _ _); ((refine isnot_str (by assumption) ?_))) | ((with_reducible show wpAny _ _ (subscriptTail _ _ (Value.ref _) (Value.int _ _)) _ _ _); k_dflt (first | refine' item_listC (by k_asm) (by walk_at "mine_mem") (by assumption) (by assumption) ?_ | refine' item_listD (by k_asm) (by walk_at "mine_mem") (by assumption) (by assumption) ?_); (try dsimp only)) | walk1 | (dsimp only; first | ((with_reducible show KswEnd _ _ _ _ _ _ _ _ _ _ _ _); refine stopW ?_) | (((with_reducible show wpAny _ _ (call (Value.ref _) [_]) _ _ _); k_dflt (refine' bound_append_V (by k_asm) (by k_asm) (by walk_at "mine_mem") (by walk_at "mine_upd") ?_ (by first | exact om24 (b := 2000) (by assumption) (by decide) | exact om24 (b := 1000) (by assumption) (by decide) | walk_at "mine_sz")); intro _ _ N9; (try dsimp only); (try simp only [List.push_toArray] at N9)); (revert N9; intro _)) | ((with_reducible show (_ : Option Obj) = some (boundO _ _) ∧ _); (refine' and_bound (by k_asm) (by walk_at "mine_mem") ?_)) | ((with_reducible show wpAny _ _ (callWith _ (Value.ref _) _ _ _) _ _ _); k_dflt (refine' callWith_bound (id := "list.append") (by k_asm) (by walk_at "mine_mem") ?_)) | ((with_reducible show wpAny _ _ (compareOp PySem.CmpOp.IsNot _ _) _ _ _); ((refine isnot_str (by assumption) ?_))) | ((with_reducible show wpAny _ _ (subscriptTail _ _ (Value.ref _) (Value.int _ _)) _ _ _); k_dflt (first | refine' item_listC (by k_asm) (by walk_at "mine_mem") (by assumption) (by assumption) ?_ | refine' item_listD (by k_asm) (by walk_at "mine_mem") (by assumption) (by assumption) ?_); (try dsimp only)) | walk1) | (leave1; walk_say "STEP leave1"; try dsimp only) | fail "no step"))
        rename_i F3 N3
        refine ksw_end (i + 1, _, us ++ [.str ⟨x.toArray⟩ ux], ys ++ [x], k + 1) F3 N3 (fun _ h => h) trivial (by kst_all) (by (intro z9 h29 h39; (with_reducible (repeat (first | exact rfl | refine off_st h39 ?_ | refine off_st0 ?_ | refine off_nil ?_ | refine off_ite (by first | exact h29 _ me0 | exact h29 _ me1 | exact h29 _ me2 | exact h29 _ me3 | exact ne_st h39 me0 | exact ne_st h39 me1 | exact ne_st h39 me2) ?_ | refine off_kst (by first | exact h29 _ me0 | exact h29 _ me1 | exact h29 _ me2 | exact h29 _ me3 | exact ne_st h39 me0 | exact ne_st h39 me1 | exact ne_st h39 me2) ?_))); try exact rfl)) ?_ (om9 hi)
        exact ⟨hi, by dsimp only; rw [List.map_append]; exact strs_snoc hs, om39 hl, by dsimp only; rw [← he, todo_some hv', List.append_assoc]; rfl⟩
    · have hi' : ¬ (i : Int) < xs.length := om5 hlen hi
      k_steps
      exact wend (i, ti, us, ys, k) F2 N2 (fun _ h => h) (by kst_all) (by (intro z9 h29 h39; (with_reducible (repeat (first | exact rfl | refine off_st h39 ?_ | refine off_st0 ?_ | refine off_nil ?_ | refine off_ite (by first | exact h29 _ me0 | exact h29 _ me1 | exact h29 _ me2 | exact h29 _ me3 | exact ne_st h39 me0 | exact ne_st h39 me1 | exact ne_st h39 me2) ?_ | refine off_kst (by first | exact h29 _ me0 | exact h29 _ me1 | exact h29 _ me2 | exact h29 _ me3 | exact ne_st h39 me0 | exact ne_st h39 me1 | exact ne_st h39 me2) ?_))); try exact rfl)) ⟨⟨hi0, hs, hl, he⟩, .inl (om8 hi0 hi)⟩
  case rest =>
    intro c u h tk hp F2 N2
    clear F1 N1
    obtain ⟨i, ti, us, ys, k⟩ := c
    dsimp only at hp F2 N2 ⊢
    k_steps
    unfold StopW
    refine while_to (σ := JS) (fun c => (q, boundO "list.append" l) :: (l, listOf c.2.2.1.toArray c.2.2.2.2) :: news) (fun c => [(Str.ofString "i", .int c.1 c.2.1)]) [Str.ofString "fixed"]
      (fun c => JInv ps c.1 c.2.2.1 c.2.2.2.1 ∧ (c.1 = ps.length ∨ ps[c.1]? = some none)) (fun c => c.1 = ps.length ∧ StrsAre c.2.2.1 ((todo ps 0).map stz)) (fun c => ps.length - c.1) (i, ti, us, ys, k) F2 N2 ?k2 ?p2 ?turn2 ?rest2
    case k2 => kst_all
    case p2 => exact hp
    case turn2 =>
      clear hp F2 N2
      intro c u h tk hp F2 N2
      obtain ⟨i, ti, us, ys, k⟩ := c
      dsimp only at hp F2 N2 ⊢
      obtain ⟨⟨hi0, hs, hl, he⟩, hp⟩ := hp
      by_cases hi : i < ps.length
      · have hi' : (i : Int) < xs.length := om3 hlen hi
        have hul : us.length ≤ 2000 := om38 hl hi hlen hz
        have hv' : ps[i]? = some none := hp.resolve_left (Nat.ne_of_lt hi)
        have hx := hps.get_none hv'
        by_cases hj : i + 1 = ps.length
        · have hj' : (i : Int) + 1 = xs.length := om19 hlen hj
          (repeat' (first | (k_unfold; (try dsimp only)) | (k_end; wrow_close) | (((with_reducible show wpAny _ _ (call (Value.ref _) [_]) _ _ _); k_dflt (refine' bound_append_V (by k_asm) (by k_asm) (by walk_at "mine_mem") (by walk_at "mine_upd") ?_ (by first | exact om24 (b := 2000) (by assumption) (by decide) | exact om24 (b := 1000) (by assumption) (by decide) | walk_at "mine_sz")); intro _ _ N9; (try dsimp only); (try simp only [List.push_toArray] at N9)); (revert N9; intro _)) | ((with_reducible show (_ : Option Obj) = some (boundO _ _) ∧ _); (refine' and_bound (by k_asm) (by walk_at "mine_mem") ?_)) | ((with_reducible show wpAny _ _ (callWith _ (Value.ref _) _ _ _) _ _ _); k_dflt (refine' callWith_bound (id := "list.append") (by k_asm) (by walk_at "mine_mem") ?_)) | ((with_reducible show wpAny _ _ (compareOp PySem.CmpOp.Is _ _) _ _ _); ((refine is_star (by assumption) ?_))) | ((with_reducible show wpAny _ _ (subscriptTail _ _ (Value.ref _) (Value.int _ _)) _ _ _); k_dflt (first | refine' item_listC (by k_asm) (by walk_at "mine_mem") (by assumption) (by assumption) ?_ | refine' item_listD (by k_asm) (by walk_at "mine_mem") (by assumption) (by assumption) ?_); (try dsimp only)) | walk1 | (dsimp only; first | (((with_reducible show wpAny _ _ (call (Value.ref _) [_]) _ _ _); k_dflt (refine' bound_append_V (by k_asm) (by k_asm) (by walk_at "mine_mem") (by walk_at "mine_upd") ?_ (by first | exact om24 (b := 2000) (by assumption) (by decide) | exact om24 (b := 1000) (by assumption) (by decide) | walk_at "mine_sz")); intro _ _ N9; (try dsimp only); (try simp only [List.push_toArray] at N9)); (revert N9; intro _)) | ((with_reducible show (_ : Option Obj) = some (boundO _ _) ∧ _); (refine' and_bound (by k_asm) (by walk_at "mine_mem") ?_)) | ((with_reducible show wpAny _ _ (callWith _ (Value.ref _) _ _ _) _ _ _); k_dflt (refine' callWith_bound (id := "list.append") (by k_asm) (by walk_at "mine_mem") ?_)) | ((with_reducible show wpAny _ _ (compareOp PySem.CmpOp.Is _ _) _ _ _); ((refine is_star (by assumption) ?_))) | ((with_reducible show wpAny _ _ (subscriptTail _ _ (Value.ref _) (Value.int _ _)) _ _ _); k_dflt (first | refine' item_listC (by k_asm) (by walk_at "mine_mem") (by assumption) (by assumption) ?_ | refine' item_listD (by k_asm) (by walk_at "mine_mem") (by assumption) (by assumption) ?_); (try dsimp only)) | walk1) | (leave1; walk_say "STEP leave1"; try dsimp only) | fail "no step"))
          rename_i F3 N3
          refine wend (i + 1, _, us ++ [.str (Str.ofString ".*") _], ys ++ [[46, 42]], k + 1) F3 N3 (fun _ h => h) (by kst_all) (by (intro z9 h29 h39; (with_reducible (repeat (first | exact rfl | refine off_st h39 ?_ | refine off_st0 ?_ | refine off_nil ?_ | refine off_ite (by first | exact h29 _ me0 | exact h29 _ me1 | exact h29 _ me2 | exact h29 _ me3 | exact ne_st h39 me0 | exact ne_st h39 me1 | exact ne_st h39 me2) ?_ | refine off_kst (by first | exact h29 _ me0 | exact h29 _ me1 | exact h29 _ me2 | exact h29 _ me3 | exact ne_st h39 me0 | exact ne_st h39 me1 | exact ne_st h39 me2) ?_))); try exact rfl)) ⟨hj, ?_⟩
          have e1 : todo ps i = [[46, 42]] := by
            rw [todo_none hv', List.drop_eq_nil_of_le (Nat.le_of_eq hj.symm), segs_none]; rfl
          rw [e1] at he
          rw [← he, List.map_append]
          have e2 : Str.ofString ".*" = stz [46, 42] := by decide +kernel
          dsimp only
          rw [e2]
          exact strs_snoc hs
        · have hj' : ¬ (i : Int) + 1 = xs.length := om20 hlen hj
          have hj2 : i + 1 < ps.length := Nat.lt_of_le_of_ne hi hj
          cases hv1 : ps[i + 1]'hj2 with
          | none => exact absurd (by rw [List.getElem?_eq_getElem hj2, hv1]) (hna i hv')
          | some x1 =>
            obtain ⟨u1, hx1⟩ := hps.get_some (i := i + 1) (x := x1) (by rw [List.getElem?_eq_getElem hj2, hv1])
            have hx1' : xs[((i : Int) + 1).toNat]? = some (.str ⟨x1.toArray⟩ u1) := hx1
            (repeat' (first | (k_unfold; (try dsimp only)) | (k_end; wrow_close) | ((with_reducible show wpAny _ _ (compareOp PySem.CmpOp.Is _ _) _ _ _); ((refine is_star (by assumption) ?_))) | ((with_reducible show wpAny _ _ (compareOp PySem.CmpOp.IsNot _ _) _ _ _); ((refine isnot_str (by assumption) ?_))) | ((with_reducible show wpAny _ _ (subscriptTail _ _ (Value.ref _) (Value.int _ _)) _ _ _); k_dflt (first | refine' item_listC (by k_asm) (by walk_at "mine_mem") (by assumption) (by assumption) ?_ | refine' item_listD (by k_asm) (by walk_at "mine_mem") (by assumption) (by assumption) ?_); (try dsimp only)) | walk1 | (dsimp only; first | ((with_reducible show wpAny _ _ (compareOp PySem.CmpOp.Is _ _) _ _ _); ((refine is_star (by assumption) ?_))) | ((with_reducible show wpAny _ _ (compareOp PySem.CmpOp.IsNot _ _) _ _ _); ((refine isnot_str (by assumption) ?_))) | ((with_reducible show wpAny _ _ (subscriptTail _ _ (Value.ref _) (Value.int _ _)) _ _ _); k_dflt (first | refine' item_listC (by k_asm) (by walk_at "mine_mem") (by assumption) (by assumption) ?_ | refine' item_listD (by k_asm) (by walk_at "mine_mem") (by assumption) (by assumption) ?_); (try dsimp only)) | walk1) | (leave1; walk_say "STEP leave1"; try dsimp only) | fail "no step"))
            unfold StopW
            rename_i f _ lf _ F3 N3
            have hfq : f ≠ q := Nat.ne_of_gt lf.1
            have hfl : f ≠ l := Nat.ne_of_gt lf.2.1
            have hqf : q ≠ f := Ne.symm hfq
            have hlf : l ≠ f := Ne.symm hfl
            have hnf : ∀ p ∈ (q, boundO "list.append" l) :: (l, listOf us.toArray k) :: news, p.1 ≠ f := by
              intro p hp
              rcases List.mem_cons.mp hp with rfl | hp
              · exact hqf
              · rcases List.mem_cons.mp hp with rfl | hp
                · exact hlf
                · exact Nat.ne_of_lt (ktn_ltOf lf.2.2 p hp)
            refine q_abs ?_
            intro qW hqW
            refine while_to (σ := JS) (fun c => (f, listOf c.2.2.1.toArray c.2.2.2.2) :: (q, boundO "list.append" l) :: (l, listOf us.toArray k) :: news) (fun c => [(Str.ofString "i", .int c.1 c.2.1)]) []
              (fun c => FInv ps i c.1 c.2.2.1 c.2.2.2.1) (fun c => FInv ps i c.1 c.2.2.1 c.2.2.2.1 ∧ (c.1 = ps.length ∨ ps[c.1]? = some none)) (fun c => ps.length - c.1) (i + 1, ?tk3, [], [], 0) F3 N3 ?k3 ?p3 ?turn3 ?rest3
            case k3 => kst_all
            case p3 => exact FInv.start ps hi
            case turn3 =>
              clear F3 N3
              intro c u h tk hp F2 N2
              obtain ⟨j, tj, fs, zs, kf⟩ := c
              dsimp only at hp F2 N2 ⊢
              have hjl := hp.le
              have hfl2 := hp.len
              by_cases hjj : j < ps.length
              · have hjj' : (j : Int) < xs.length := om3 hlen hjj
                have hful : fs.length ≤ 1000 := Nat.le_trans hfl2 (Nat.le_trans (Nat.le_of_lt hjj) (Nat.le_trans (Nat.le_of_eq hlen.symm) hz))
                cases hv2 : ps[j]'hjj with
                | none =>
                  have hv2' : ps[j]? = some none := by rw [List.getElem?_eq_getElem hjj, hv2]
                  have hx2 := hps.get_none hv2'
                  (repeat' (first | (k_unfold; (try dsimp only)) | (k_end; wrow_close) | ((with_reducible show wpAny _ _ (compareOp PySem.CmpOp.IsNot _ _) _ _ _); ((refine isnot_star (by assumption) ?_))) | ((with_reducible show wpAny _ _ (subscriptTail _ _ (Value.ref _) (Value.int _ _)) _ _ _); k_dflt (first | refine' item_listC (by k_asm) (by walk_at "mine_mem") (by assumption) (by assumption) ?_ | refine' item_listD (by k_asm) (by walk_at "mine_mem") (by assumption) (by assumption) ?_); (try dsimp only)) | walk1 | (dsimp only; first | ((with_reducible show wpAny _ _ (compareOp PySem.CmpOp.IsNot _ _) _ _ _); ((refine isnot_star (by assumption) ?_))) | ((with_reducible show wpAny _ _ (subscriptTail _ _ (Value.ref _) (Value.int _ _)) _ _ _); k_dflt (first | refine' item_listC (by k_asm) (by walk_at "mine_mem") (by assumption) (by assumption) ?_ | refine' item_listD (by k_asm) (by walk_at "mine_mem") (by assumption) (by assumption) ?_); (try dsimp only)) | walk1) | (leave1; walk_say "STEP leave1"; try dsimp only) | fail "no step"))
                  exact wend (j, tj, fs, zs, kf) F2 N2 (fun _ h => h) (by kst_all) (by (intro z9 h29 h39; (with_reducible (repeat (first | exact rfl | refine off_st h39 ?_ | refine off_st0 ?_ | refine off_nil ?_ | refine off_ite (by first | exact h29 _ me0 | exact h29 _ me1 | exact h29 _ me2 | exact h29 _ me3 | exact ne_st h39 me0 | exact ne_st h39 me1 | exact ne_st h39 me2) ?_ | refine off_kst (by first | exact h29 _ me0 | exact h29 _ me1 | exact h29 _ me2 | exact h29 _ me3 | exact ne_st h39 me0 | exact ne_st h39 me1 | exact ne_st h39 me2) ?_))); try exact rfl)) ⟨hp, .inr hv2'⟩
                | some x2 =>
                  have hv2' : ps[j]? = some (some x2) := by rw [List.getElem?_eq_getElem hjj, hv2]
                  obtain ⟨u2, hx2⟩ := hps.get_some hv2'
                  (repeat' (first | (k_unfold; (try dsimp only)) | (k_end; wrow_close) | ((with_reducible show KswEnd _ _ _ _ _ _ _ _ _ _ _ _); refine stopW ?_) | (((with_reducible show wpAny _ _ (call (Value.builtin "list.append") _ _) _ _ _); (k_dflt (refine' append_K (by k_asm) (by k_asm) (by walk_at "mine_upd") ?_ (by first | exact om24 (b := 2000) (by assumption) (by decide) | exact om24 (b := 1000) (by assumption) (by decide) | walk_at "mine_sz")); intro _ _ N9; (try dsimp only); (try simp only [List.push_toArray] at N9))); (revert N9; intro _)) | ((with_reducible show wpAny _ _ (compareOp PySem.CmpOp.IsNot _ _) _ _ _); ((refine isnot_str (by assumption) ?_))) | ((with_reducible show wpAny _ _ (subscriptTail _ _ (Value.ref _) (Value.int _ _)) _ _ _); k_dflt (first | refine' item_listC (by k_asm) (by walk_at "mine_mem") (by assumption) (by assumption) ?_ | refine' item_listD (by k_asm) (by walk_at "mine_mem") (by assumption) (by assumption) ?_); (try dsimp only)) | walk1 | (dsimp only; first | ((with_reducible show KswEnd _ _ _ _ _ _ _ _ _ _ _ _); refine stopW ?_) | (((with_reducible show wpAny _ _ (call (Value.builtin "list.append") _ _) _ _ _); (k_dflt (refine' append_K (by k_asm) (by k_asm) (by walk_at "mine_upd") ?_ (by first | exact om24 (b := 2000) (by assumption) (by decide) | exact om24 (b := 1000) (by assumption) (by decide) | walk_at "mine_sz")); intro _ _ N9; (try dsimp only); (try simp only [List.push_toArray] at N9))); (revert N9; intro _)) | ((with_reducible show wpAny _ _ (compareOp PySem.CmpOp.IsNot _ _) _ _ _); ((refine isnot_str (by assumption) ?_))) | ((with_reducible show wpAny _ _ (subscriptTail _ _ (Value.ref _) (Value.int _ _)) _ _ _); k_dflt (first | refine' item_listC (by k_asm) (by walk_at "mine_mem") (by assumption) (by assumption) ?_ | refine' item_listD (by k_asm) (by walk_at "mine_mem") (by assumption) (by assumption) ?_); (try dsimp only)) | walk1) | (leave1; walk_say "STEP leave1"; try dsimp only) | fail "no step"))
                  rename_i F4 N4
                  exact ksw_end (j + 1, _, fs ++ [.str ⟨x2.toArray⟩ u2], zs ++ [x2], kf + 1) F4 N4 (fun _ h => h) trivial (by kst_all) (by (intro z9 h29 h39; (with_reducible (repeat (first | exact rfl | refine off_st h39 ?_ | refine off_st0 ?_ | refine off_nil ?_ | refine off_ite (by first | exact h29 _ me0 | exact h29 _ me1 | exact h29 _ me2 | exact h29 _ me3 | exact ne_st h39 me0 | exact ne_st h39 me1 | exact ne_st h39 me2) ?_ | refine off_kst (by first | exact h29 _ me0 | exact h29 _ me1 | exact h29 _ me2 | exact h29 _ me3 | exact ne_st h39 me0 | exact ne_st h39 me1 | exact ne_st h39 me2) ?_))); try exact rfl)) (hp.step hv2') (om9 hjj)
              · have hjj' : ¬ (j : Int) < xs.length := om5 hlen hjj
                k_steps
                exact wend (j, tj, fs, zs, kf) F2 N2 (fun _ h => h) (by kst_all) (by (intro z9 h29 h39; (with_reducible (repeat (first | exact rfl | refine off_st h39 ?_ | refine off_st0 ?_ | refine off_nil ?_ | refine off_ite (by first | exact h29 _ me0 | exact h29 _ me1 | exact h29 _ me2 | exact h29 _ me3 | exact ne_st h39 me0 | exact ne_st h39 me1 | exact ne_st h39 me2) ?_ | refine off_kst (by first | exact h29 _ me0 | exact h29 _ me1 | exact h29 _ me2 | exact h29 _ me3 | exact ne_st h39 me0 | exact ne_st h39 me1 | exact ne_st h39 me2) ?_))); try exact rfl)) ⟨hp, .inl (om8 hjl hjj)⟩
            case rest3 =>
              clear F3 N3
              intro c u h tk hp F2 N2
              obtain ⟨j, tj, fs, zs, kf⟩ := c
              dsimp only at hp F2 N2 ⊢
              refine hqW _ _ ?_
              obtain ⟨hp, hstop⟩ := hp
              have hbd := hp.bound
              have hstr : StrsAre fs (zs.map stz) := hp.str
              have hw : ((zs.map stz).map (·.length)).sum + (zs.map stz).length ≤ 1048576 := by
                have h1 := strs_sum zs
                rw [List.length_map]
                show ((zs.map fun y => (⟨y.toArray⟩ : Str)).map (·.length)).sum + _ ≤ _
                omega
              have hcl : (cat (zs.map stz)).length ≤ 30000 := by
                have h3 := cat_len zs
                show (cat (zs.map fun y => (⟨y.toArray⟩ : Str))).length ≤ _
                omega
              obtain ⟨hz1, hz2⟩ := hp.stop hstop
              by_cases hend : j = ps.length
              · have hend' : (j : Int) = xs.length := om12 hlen hend
                (repeat' (first | (k_unfold; (try dsimp only)) | (k_end; wrow_close) | ((with_reducible show KswEnd _ _ _ _ _ _ _ _ _ _ _ _); refine stopW ?_) | ((with_reducible show wpAny _ _ (call (Value.builtin "str.join") _ _) _ _ _); (k_dflt (refine' join0 (by (exact news_list (by k_asm) (by walk_at "mine_mem"))) (by assumption) (by assumption) ?_); intro _ _; (try dsimp only))) | (((with_reducible show wpAny _ _ (call (Value.ref _) [_]) _ _ _); k_dflt (refine' bound_append_V (by k_asm) (by k_asm) (by walk_at "mine_mem") (by walk_at "mine_upd") ?_ (by first | exact om24 (b := 2000) (by assumption) (by decide) | exact om24 (b := 1000) (by assumption) (by decide) | walk_at "mine_sz")); intro _ _ N9; (try dsimp only); (try simp only [List.push_toArray] at N9)); (revert N9; intro _)) | ((with_reducible show (_ : Option Obj) = some (boundO _ _) ∧ _); (refine' and_bound (by k_asm) (by walk_at "mine_mem") ?_)) | ((with_reducible show wpAny _ _ (callWith _ (Value.ref _) _ _ _) _ _ _); k_dflt (refine' callWith_bound (id := "list.append") (by k_asm) (by walk_at "mine_mem") ?_)) | walk1 | (dsimp only; first | ((with_reducible show KswEnd _ _ _ _ _ _ _ _ _ _ _ _); refine stopW ?_) | ((with_reducible show wpAny _ _ (call (Value.builtin "str.join") _ _) _ _ _); (k_dflt (refine' join0 (by (exact news_list (by k_asm) (by walk_at "mine_mem"))) (by assumption) (by assumption) ?_); intro _ _; (try dsimp only))) | (((with_reducible show wpAny _ _ (call (Value.ref _) [_]) _ _ _); k_dflt (refine' bound_append_V (by k_asm) (by k_asm) (by walk_at "mine_mem") (by walk_at "mine_upd") ?_ (by first | exact om24 (b := 2000) (by assumption) (by decide) | exact om24 (b := 1000) (by assumption) (by decide) | walk_at "mine_sz")); intro _ _ N9; (try dsimp only); (try simp only [List.push_toArray] at N9)); (revert N9; intro _)) | ((with_reducible show (_ : Option Obj) = some (boundO _ _) ∧ _); (refine' and_bound (by k_asm) (by walk_at "mine_mem") ?_)) | ((with_reducible show wpAny _ _ (callWith _ (Value.ref _) _ _ _) _ _ _); k_dflt (refine' callWith_bound (id := "list.append") (by k_asm) (by walk_at "mine_mem") ?_)) | walk1) | (leave1; walk_say "STEP leave1"; try dsimp only) | fail "no step"))
                rename_i F4 N4
                have e1 : todo ps i = [[46, 42], zs.flatten] := by
                  have hne : ps.drop (i + 1) ≠ [] := om41 hj2
                  rw [todo_none hv', segs_none, if_neg hne, if_pos (by rw [hz2, hend, List.drop_length]), ← hz1]
                refine ksw_end (j, _, us ++ [.str (Str.ofString ".*") _] ++ [.str (cat (zs.map stz)) _], ys ++ [[46, 42]] ++ [zs.flatten], k + 1 + 1) F4 N4 (fun p hp => List.mem_cons_of_mem _ hp) trivial (by kst_all) (by (intro z9 h29 h39; (with_reducible (repeat (first | exact rfl | refine off_st h39 ?_ | refine off_st0 ?_ | refine off_nil ?_ | refine off_ite (by first | exact h29 _ me0 | exact h29 _ me1 | exact h29 _ me2 | exact h29 _ me3 | exact ne_st h39 me0 | exact ne_st h39 me1 | exact ne_st h39 me2) ?_ | refine off_kst (by first | exact h29 _ me0 | exact h29 _ me1 | exact h29 _ me2 | exact h29 _ me3 | exact ne_st h39 me0 | exact ne_st h39 me1 | exact ne_st h39 me2) ?_))); try exact rfl)) ⟨⟨hp.le, ?_, ?_, ?_⟩, .inl hend⟩ (Nat.sub_lt_sub_left hi hp.lo)
                · have e2 : Str.ofString ".*" = stz [46, 42] := by decide +kernel
                  have e3 : cat (zs.map stz) = stz zs.flatten := cat_flat zs
                  dsimp only
                  rw [e2, e3, List.map_append]
                  refine strs_snoc ?_
                  rw [List.map_append]
                  exact strs_snoc hs
                · exact om40 hl hp.lo
                · dsimp only
                  rw [todo_end (Nat.le_of_eq hend.symm), ← he, e1]
                  simp
              · have hend' : ¬ (j : Int) = xs.length := om13 hlen hend
                (repeat' (first | (k_unfold; (try dsimp only)) | (k_end; wrow_close) | ((with_reducible show KswEnd _ _ _ _ _ _ _ _ _ _ _ _); refine stopW ?_) | ((with_reducible show wpAny _ _ (call (Value.builtin "str.join") _ _) _ _ _); (k_dflt (refine' join0 (by (exact news_list (by k_asm) (by walk_at "mine_mem"))) (by assumption) (by assumption) ?_); intro _ _; (try dsimp only))) | (((with_reducible show wpAny _ _ (call (Value.ref _) [_]) _ _ _); k_dflt (refine' bound_append_V (by k_asm) (by k_asm) (by walk_at "mine_mem") (by walk_at "mine_upd") ?_ (by first | exact om24 (b := 2000) (by assumption) (by decide) | exact om24 (b := 1000) (by assumption) (by decide) | walk_at "mine_sz")); intro _ _ N9; (try dsimp only); (try simp only [List.push_toArray] at N9)); (revert N9; intro _)) | ((with_reducible show (_ : Option Obj) = some (boundO _ _) ∧ _); (refine' and_bound (by k_asm) (by walk_at "mine_mem") ?_)) | ((with_reducible show wpAny _ _ (callWith _ (Value.ref _) _ _ _) _ _ _); k_dflt (refine' callWith_bound (id := "list.append") (by k_asm) (by walk_at "mine_mem") ?_)) | walk1 | (dsimp only; first | ((with_reducible show KswEnd _ _ _ _ _ _ _ _ _ _ _ _); refine stopW ?_) | ((with_reducible show wpAny _ _ (call (Value.builtin "str.join") _ _) _ _ _); (k_dflt (refine' join0 (by (exact news_list (by k_asm) (by walk_at "mine_mem"))) (by assumption) (by assumption) ?_); intro _ _; (try dsimp only))) | (((with_reducible show wpAny _ _ (call (Value.ref _) [_]) _ _ _); k_dflt (refine' bound_append_V (by k_asm) (by k_asm) (by walk_at "mine_mem") (by walk_at "mine_upd") ?_ (by first | exact om24 (b := 2000) (by assumption) (by decide) | exact om24 (b := 1000) (by assumption) (by decide) | walk_at "mine_sz")); intro _ _ N9; (try dsimp only); (try simp only [List.push_toArray] at N9)); (revert N9; intro _)) | ((with_reducible show (_ : Option Obj) = some (boundO _ _) ∧ _); (refine' and_bound (by k_asm) (by walk_at "mine_mem") ?_)) | ((with_reducible show wpAny _ _ (callWith _ (Value.ref _) _ _ _) _ _ _); k_dflt (refine' callWith_bound (id := "list.append") (by k_asm) (by walk_at "mine_mem") ?_)) | walk1) | (leave1; walk_say "STEP leave1"; try dsimp only) | fail "no step"))
                rename_i F4 N4
                have hj3 : ps[j]? = some none := hstop.resolve_left hend
                have e1 : todo ps i = ([40, 63, 62, 46, 42, 63] ++ zs.flatten ++ [41]) :: todo ps j := by
                  have hne : ps.drop (i + 1) ≠ [] := om41 hj2
                  have hne2 : after (ps.drop (i + 1)) ≠ [] := by rw [hz2, drop_at hj3]; simp
                  rw [todo_none hv', segs_none, if_neg hne, if_neg hne2, ← hz1, hz2, todo_none hj3, drop_at hj3]
                refine ksw_end (j, _, us ++ [.str (PySem.Str.empty ++ Str.ofString "(?>.*?" ++ cat (zs.map stz) ++ Str.ofString ")") _], ys ++ [[40, 63, 62, 46, 42, 63] ++ zs.flatten ++ [41]], k + 1) F4 N4 (fun p hp => List.mem_cons_of_mem _ hp) trivial (by kst_all) (by (intro z9 h29 h39; (with_reducible (repeat (first | exact rfl | refine off_st h39 ?_ | refine off_st0 ?_ | refine off_nil ?_ | refine off_ite (by first | exact h29 _ me0 | exact h29 _ me1 | exact h29 _ me2 | exact h29 _ me3 | exact ne_st h39 me0 | exact ne_st h39 me1 | exact ne_st h39 me2) ?_ | refine off_kst (by first | exact h29 _ me0 | exact h29 _ me1 | exact h29 _ me2 | exact h29 _ me3 | exact ne_st h39 me0 | exact ne_st h39 me1 | exact ne_st h39 me2) ?_))); try exact rfl)) ⟨⟨hp.le, ?_, ?_, ?_⟩, .inr hj3⟩ (Nat.sub_lt_sub_left hi hp.lo)
                · have e2 : Str.ofString "(?>.*?" = stz [40, 63, 62, 46, 42, 63] := by decide +kernel
                  have e4 : Str.ofString ")" = stz [41] := by decide +kernel
                  have e3 : cat (zs.map stz) = stz zs.flatten := cat_flat zs
                  dsimp only
                  rw [e2, e3, e4, empty_app, stz_app, stz_app, List.map_append]
                  exact strs_snoc hs
                · exact Nat.le_trans (om39 hl) (Nat.mul_le_mul_left 2 hp.lo)
                · dsimp only
                  rw [← he, e1]
                  simp
      · have hi' : ¬ (i : Int) < xs.length := om5 hlen hi
        have hie : i = ps.length := om8 hi0 hi
        k_steps
        refine wend (i, ti, us, ys, k) F2 N2 (fun _ h => h) (by kst_all) (by (intro z9 h29 h39; (with_reducible (repeat (first | exact rfl | refine off_st h39 ?_ | refine off_st0 ?_ | refine off_nil ?_ | refine off_ite (by first | exact h29 _ me0 | exact h29 _ me1 | exact h29 _ me2 | exact h29 _ me3 | exact ne_st h39 me0 | exact ne_st h39 me1 | exact ne_st h39 me2) ?_ | refine off_kst (by first | exact h29 _ me0 | exact h29 _ me1 | exact h29 _ me2 | exact h29 _ me3 | exact ne_st h39 me0 | exact ne_st h39 me1 | exact ne_st h39 me2) ?_))); try exact rfl)) ⟨hie, ?_⟩
        rw [todo_end (Nat.le_of_eq hie.symm), List.append_nil] at he
        rw [← he]; exact hs
    case rest2 =>
      clear hp F2 N2
      intro c u h tk hp F2 N2
      obtain ⟨i, ti, us, ys, k⟩ := c
      dsimp only at hp F2 N2 ⊢
      obtain ⟨hi, hs⟩ := hp
      have hi' : (i : Int) = xs.length := om12 hlen hi
      have hw : (((todo ps 0).map stz).map (·.length)).sum + ((todo ps 0).map stz).length ≤ 1048576 := by
        have h1 := strs_sum (todo ps 0)
        have h2 := todo_len ps
        rw [List.length_map]
        show (((todo ps 0).map fun y => (⟨y.toArray⟩ : Str)).map (·.length)).sum + _ ≤ _
        omega
      have hcl : (cat ((todo ps 0).map stz)).length ≤ 30000 := by
        have h2 := todo_len ps
        have h3 := cat_len (todo ps 0)
        show (cat ((todo ps 0).map fun y => (⟨y.toArray⟩ : Str))).length ≤ _
        omega
      (repeat' (first | (k_unfold; (try dsimp only)) | (k_end; wrow_close) | ((with_reducible show wpAny _ _ (call (Value.builtin "str.join") _ _) _ _ _); (k_dflt (refine' join0 (by (exact news_list (by k_asm) (by walk_at "mine_mem"))) (by assumption) (by assumption) ?_); intro _ _; (try dsimp only))) | walk1 | (dsimp only; first | ((with_reducible show wpAny _ _ (call (Value.builtin "str.join") _ _) _ _ _); (k_dflt (refine' join0 (by (exact news_list (by k_asm) (by walk_at "mine_mem"))) (by assumption) (by assumption) ?_); intro _ _; (try dsimp only))) | walk1) | (leave1; walk_say "STEP leave1"; try dsimp only) | fail "no step"))
      refine con_endS ?_ hret (by assumption) (news_drop (tl := [_, _]) (by assumption))
      have e2 : Str.ofString "(?s:" = stz [40, 63, 115, 58] := by decide +kernel
      have e4 : Str.ofString ")\\Z" = stz [41, 92, 90] := by decide +kernel
      have e3 : cat ((todo ps 0).map stz) = stz (todo ps 0).flatten := cat_flat _
      rw [e2, e3, e4, empty_app, stz_app, stz_app]
      rfl
end
section

theorem eval_lam {M : Model} {A : Around} {E : Value → Shared → Prop} {s : Shared} {Q : Value → Shared → Prop} {args : Arguments} {body : PySem.Expr} {scope : Scope} {pos : Pos} {env : Env} (hd : defaultsOf args env = ([], []))
    (h : wpAny M A (makeFunction "<lambda>" (env.qual ++ "<lambda>") args (.expr body) scope env [] [] [] pos pos.line) Q E s) : wpAny M A (eval (.Lambda args body scope pos) env) Q E s := by
  rw [arm_eval_Lambda, hd]
  exact wpAny_bind (wpAny_pure (wpAny_bind (wpAny_holding (wpAny_pure h))))
theorem updf_re {d : Addr} {o o' : Obj} {l : List (Addr × Obj)} {g : Obj → List (Addr × Obj)} (U : UpdF d o l g) : UpdF d o' (g o') g := by
  induction U with
  | head h => exact .head h
  | tail h _ ih => exact .tail h ih
theorem updf_mem {d : Addr} {o : Obj} {l : List (Addr × Obj)} {g : Obj → List (Addr × Obj)} (U : UpdF d o l g) : (d, o) ∈ l := by
  induction U with
  | head _ => exact .head _
  | tail _ _ ih => exact .tail _ ih
theorem mem_norm {α : Type} {p a b c : α} {u v r : List α} (h : p ∈ a :: b :: c :: ((u ++ v) ++ r)) : p ∈ a :: (u ++ (b :: c :: (v ++ r))) := by
  simp only [List.mem_cons, List.mem_append] at h ⊢
  rcases h with h | h | h | (h | h) | h <;> simp [h]
theorem news_norm {h₀ h : Heap} {L : Addr} {a b c : Addr × Obj} {u v r : List (Addr × Obj)} (N : News h₀ L h (a :: (u ++ (b :: c :: (v ++ r))))) : News h₀ L h (a :: b :: c :: ((u ++ v) ++ r)) := fun p hp => N p (mem_norm hp)
theorem sub_callZ {w : World} {A : Around} {E : Value → Shared → Prop} {s : Shared} {h₀ : Heap} {L : Addr} {mm : Str → Option Value} {led : List (Addr × Obj)} {f : Addr} {l Z : List Nat} {u : Tok} {o : Obj} {Q : Value → Shared → Prop} (hZ : escAmp l = Z) (hz : l.length ≤ 10000) (hP : PatAt h₀) (F : Fr h₀ L s.heap mm) (N : News h₀ L s.heap led) (hf0 : (f, o) ∈ led) (hfc : o.cls = .type "function") (hlam : LamOk w A.in1 f l u h₀ L mm led)
    (h : ∀ h' tk u', Fr h₀ L h' mm → News h₀ L h' led → Q (.str ⟨Z.toArray⟩ u') { s with heap := h', toks := tk }) :
    wpAny (model PySem.Challenge.pw_rx0107_01 w) A (call (.builtin "re.Pattern.sub") [.ref 36, .ref f, .str ⟨l.toArray⟩ u]) Q E s := by
  subst hZ
  exact sub_call hz hP F N hf0 hfc hlam h
theorem tx_ne33 {Z : List Nat} (h : Z ≠ [33]) : ((⟨Z.toArray⟩ : Str) == Str.ofString "!") = false := by
  rw [show Str.ofString "!" = ⟨#[33]⟩ by decide +kernel, Bool.eq_false_iff]
  intro e
  have := congrArg Str.cps (eq_of_beq e)
  exact h (by simpa using congrArg Array.toList this)
theorem mem_norm2 {α : Type} {p a b c : α} {u v r : List α} (h : p ∈ u ++ (b :: c :: (v ++ r))) : p ∈ a :: b :: c :: ((u ++ v) ++ r) := by
  simp only [List.mem_cons, List.mem_append] at h ⊢
  rcases h with h | h | h | h | h <;> simp [h]
theorem truthy_tx {prog : Program} {w : World} {A : Around} {E : Value → Shared → Prop} {s : Shared} {z : Nat} {Zr : List Nat} {t : Tok} {Q : Bool → Shared → Prop} (hz : (z :: Zr).length ≤ 100000) (h : Q true { s with toks := s.toks + 1 + 1 }) : wpAny (model prog w) A (truthy (.str ⟨(z :: Zr).toArray⟩ t)) Q E s := by
  have hl : (⟨(z :: Zr).toArray⟩ : Str).length = (z :: Zr).length := by simp [PySem.Str.length]
  refine P.truthy_str (by rw [hl]; omega) ?_
  have e : (((⟨(z :: Zr).toArray⟩ : Str).length : Int) != 0) = true := by rw [hl]; simp; omega
  rw [e]; exact h
noncomputable def inC (z : Nat) (Zr : List Nat) : List Nat := if z = 33 then 94 :: Zr else if z = 94 ∨ z = 91 then 92 :: z :: Zr else z :: Zr
theorem brk_inC {Y : List Nat} {z : Nat} {Zr : List Nat} (h : brk Y = if (z :: Zr)[0]? = some 33 then [91, 94] ++ (z :: Zr).drop 1 ++ [93] else if (z :: Zr)[0]? = some 94 ∨ (z :: Zr)[0]? = some 91 then [91, 92] ++ (z :: Zr) ++ [93] else [91] ++ (z :: Zr) ++ [93]) : brk Y = 91 :: (inC z Zr ++ [93]) := by
  rw [h]
  unfold inC
  simp only [List.getElem?_cons_zero, Option.some.injEq]
  split
  · rfl
  · split <;> rfl
theorem inC_len (z : Nat) (Zr : List Nat) : (inC z Zr).length ≤ (z :: Zr).length + 1 := by
  unfold inC
  split
  · simp
  · split <;> simp
theorem inC_1 {z : Nat} {Zr : List Nat} (h : z = 33) : (Str.ofString "^" ++ ⟨Zr.toArray⟩ : Str) = ⟨(inC z Zr).toArray⟩ := by
  rw [show Str.ofString "^" = ⟨#[94]⟩ by decide +kernel]
  unfold inC
  rw [if_pos h]
  show (⟨#[94] ++ Zr.toArray⟩ : Str) = _
  congr 1
  simp
theorem any_in {z : Nat} {b : Bool} (h : ([Str.ofString "^", Str.ofString "["].any fun x => x == (⟨#[z]⟩ : Str)) = b) : decide (z = 94 ∨ z = 91) = b := by
  rw [← h, show Str.ofString "^" = ⟨#[94]⟩ by decide +kernel, show Str.ofString "[" = ⟨#[91]⟩ by decide +kernel]
  simp only [List.any_cons, List.any_nil, one_eq, Bool.or_false]
  rw [Bool.decide_or]
  exact congr (congrArg _ (decide_eq_decide.mpr ⟨Eq.symm, Eq.symm⟩)) (decide_eq_decide.mpr ⟨Eq.symm, Eq.symm⟩)
theorem inC_2 {z : Nat} {Zr : List Nat} (h : ¬ z = 33) (ha : ([Str.ofString "^", Str.ofString "["].any fun x => x == (⟨#[z]⟩ : Str)) = true) : (Str.ofString "\\" ++ ⟨(z :: Zr).toArray⟩ : Str) = ⟨(inC z Zr).toArray⟩ := by
  have h2 := of_decide_eq_true (any_in ha)
  rw [show Str.ofString "\\" = ⟨#[92]⟩ by decide +kernel]
  unfold inC
  rw [if_neg h, if_pos h2]
  show (⟨#[92] ++ (z :: Zr).toArray⟩ : Str) = _
  congr 1
  simp
theorem inC_3 {z : Nat} {Zr : List Nat} (h : ¬ z = 33) (ha : ([Str.ofString "^", Str.ofString "["].any fun x => x == (⟨#[z]⟩ : Str)) = false) : (⟨(z :: Zr).toArray⟩ : Str) = ⟨(inC z Zr).toArray⟩ := by
  have h2 := of_decide_eq_false (any_in ha)
  unfold inC
  rw [if_neg h, if_neg h2]
theorem slice_one (z : Nat) (Zr : List Nat) : Txt.slice ⟨(z :: Zr).toArray⟩ (some 1) none = ⟨Zr.toArray⟩ := by
  exact slice_tail (l := z :: Zr) (i := 1) (by omega) (by simp; omega)
section
variable {M : Model} {A : Around} {E : Value → Shared → Prop} {s : Shared} {h₀ : Heap} {L a c P : Addr} {m mg mb : Str → Option Value} {cn : Str} {cs : Scope} {ccd : Value} {cl : List (Str × Addr)} {led : List (Addr × Obj)} {g g2 : Obj → List (Addr × Obj)}
  {p : Program} {loose : List Str} {mean : ExcName → Option Value} {name qual : Str} {params : Arguments} {body : PySem.Expr} {scope : Scope} {ps : Array Value} {pos : Pos} {firstLine : Nat} {clos : List (Str × Addr)}
theorem lam_made2 {Q : Value → Shared → Prop} (F : Fr h₀ L s.heap m) (N : News h₀ L s.heap led) (T : Top p loose mean mg mb h₀) (C : CodeHd h₀ c P) (hcd : ccd = .ref c) (U : UpdF P (tabObj ps) led g) (hsub : ∀ o, ∀ p ∈ g2 o, p ∈ g o) (ts : TS pos qual ps (g2 (tabObj ps)))
    (hcl : closureFor scope (envX cn cs L a ccd cl) = pure clos)
    (h : ∀ f c' oc vs t ctv ex ps' h' tk, Fr h₀ L h' m → News h₀ L h' ((f, kla_obj name qual params body scope clos ((mg "__name__").getD .none) c' ctv) :: (ex ++ g (tabObj ps'))) → (c', oc) ∈ ex ++ g (tabObj ps') → oc.data = .fields vs → vs[1]? = some (.str qual t) →
      TS pos qual ps' (ex ++ g2 (tabObj ps')) → (∀ q ∈ led, q.1 < f) → (∀ q ∈ led, ∀ p ∈ ex, q.1 < p.1) → Q (.ref f) { s with heap := h', toks := tk }) :
    wpAny M A (makeFunction name qual params (.expr body) scope (envX cn cs L a ccd cl) [] [] [] pos firstLine) Q E s := by
  obtain ⟨pre, post, hl, hg, h1, h2⟩ := U.split
  have hgl : g (tabObj ps) = led := by rw [hg, hl]
  rcases ts.hit with hn | ⟨c', oc, vs, t, e1, e2, e3, e4⟩
  · refine kla_nest F N T C hcd U ts.tr hn hcl fun f c' oc vs t ctv h' tk F' N' d1 d2 l1 l2 => ?_
    refine h f c' oc vs t ctv [(c', oc)] (ps ++ #[rawInt pos.line, rawInt pos.col, .ref c']) h' tk F' N' (.head _) d1 d2 ⟨?_, ?_⟩ (fun q hq => Nat.lt_trans (l1 q hq) l2) (fun q hq p hp => by rw [List.mem_singleton.mp hp]; exact l1 q hq)
    · rw [Array.toList_append]; exact triples_snoc _ ts.tr _ _ _
    · refine .inr ⟨c', oc, vs, t, ?_, .head _, d1, d2⟩
      rw [Array.toList_append]; exact codeAmong_snoc _ ts.tr hn
  · have hm : (P, tabObj ps) ∈ led := by rw [hl]; exact List.mem_append_right _ (.head _)
    have e2' : (c', oc) ∈ led := hgl ▸ hsub _ _ e2
    refine kla_hit F N T C hcd hm ts.tr e1 hcl fun f ctv h' tk F' N' l1 => ?_
    refine h f c' oc vs t ctv [] ps h' tk F' (by rw [List.nil_append, hgl]; exact N') (by rw [List.nil_append, hgl]; exact e2') e3 e4 ts l1 (fun q _ p hp => nomatch hp)
end
theorem brk_str {y : List Nat} {S9 : Str} {u : List Nat} (h : S9 = ⟨u.toArray⟩) (e : y = 91 :: (u ++ [93])) : (Str.empty ++ Str.ofString "[" ++ S9 ++ Str.ofString "]" : Str) = ⟨y.toArray⟩ := by
  rw [h, e, show Str.ofString "[" = ⟨#[91]⟩ by decide +kernel, show Str.ofString "]" = ⟨#[93]⟩ by decide +kernel]
  show (⟨#[] ++ #[91] ++ u.toArray ++ #[93]⟩ : Str) = _
  congr 1
  simp
theorem brk_len2 (y : List Nat) {z : Nat} {Zr : List Nat} (h : brk y = 91 :: (inC z Zr ++ [93])) (hy : y.length ≤ 1000) : (inC z Zr).length ≤ 4005 := by
  have := brk_len y
  rw [h] at this
  simp at this
  omega
end
section

inductive Pass : Prop
  | on

theorem lit_eq {c : Nat} {x : Str} (d : Nat) (b : Bool) (e : x = ⟨#[d]⟩) (h : decide (c = d) = b) : ((⟨#[c]⟩ : Str) == x) = b := by rw [e, one_eq, h]
inductive Pass0 : Prop
  | on
local macro_rules | `(tactic| walk_at "mine_eq") => `(tactic| first | exact tx_ne33 (by assumption) | exact lit_eq 42 _ (by decide +kernel) (by first | exact decide_eq_true (by assumption) | exact decide_eq_false (by assumption)) | exact lit_eq 63 _ (by decide +kernel) (by first | exact decide_eq_true (by assumption) | exact decide_eq_false (by assumption)) | exact lit_eq 91 _ (by decide +kernel) (by first | exact decide_eq_true (by assumption) | exact decide_eq_false (by assumption)) | exact lit_eq 33 _ (by decide +kernel) (by first | exact decide_eq_true (by assumption) | exact decide_eq_false (by assumption)) | exact lit_eq 94 _ (by decide +kernel) (by first | exact decide_eq_true (by assumption) | exact decide_eq_false (by assumption)) | exact lit_eq 93 _ (by decide +kernel) (by first | exact decide_eq_true (by assumption) | exact decide_eq_false (by assumption)))
structure TIn (g : Obj → List (Addr × Obj)) (news : List (Addr × Obj)) (l q : Addr) (qn : Str) (ex : List (Addr × Obj)) (ts : Array Value) : Prop where
  ts : TS lamPs qn ts (ex ++ g (tabObj ts))
  gt : ∀ a ∈ news, ∀ p ∈ ex, a.1 < p.1
  nl : ∀ p ∈ ex, p.1 ≠ l ∧ p.1 ≠ q
noncomputable abbrev qLam : Str := Str.ofString "_translate.<locals>.<lambda>"
theorem updf_same {d : Addr} {o : Obj} {l : List (Addr × Obj)} {g : Obj → List (Addr × Obj)} (U : UpdF d o l g) : g o = l := by
  obtain ⟨pre, post, e1, e2, _⟩ := U.split
  rw [e2, e1]
theorem updf_addr {d : Addr} {o o' : Obj} {l : List (Addr × Obj)} {g : Obj → List (Addr × Obj)} (U : UpdF d o l g) {p : Addr × Obj} (h : p ∈ g o') : ∃ p' ∈ l, p'.1 = p.1 := by
  obtain ⟨pre, post, e1, e2, _⟩ := U.split
  rw [e2] at h
  rw [e1]
  rcases List.mem_append.mp h with h | h
  · exact ⟨p, List.mem_append_left _ h, rfl⟩
  · rcases List.mem_cons.mp h with rfl | h
    · exact ⟨(d, o), List.mem_append_right _ (.head _), rfl⟩
    · exact ⟨p, List.mem_append_right _ (.tail _ h), rfl⟩
theorem updf_app {d : Addr} {o : Obj} {l : List (Addr × Obj)} {g : Obj → List (Addr × Obj)} (U : UpdF d o l g) : ∀ {ex : List (Addr × Obj)}, (∀ p ∈ ex, p.1 ≠ d) → UpdF d o (ex ++ l) (fun o => ex ++ g o)
  | [], _ => U
  | p :: r, h => .tail (h p (.head _)) (updf_app U fun q hq => h q (.tail _ hq))
structure TSt where
  i : Nat
  ti : Tok
  us : List Value
  ps : List Pt
  k : Nat
  ex : List (Addr × Obj)
  ts : Array Value
noncomputable def ConT (w : World) (f : Addr) (vs : List Value) (dep unt : Nat) (R : Value → List (Addr × Obj) → Prop) : Prop :=
  ∀ (p : Program) (loose : List Str) (mean : ExcName → Option Value) (mg mb : Str → Option Value) (dp un : Nat) (gd : Option (List Code)) (cn : Str) (cs : Scope) (a : Addr) (ccd : Value) (cl : List (Str × Addr)) (outer : List Env) (A₀ : Around) (base h₀ : Heap) (L : Addr) (m : Str → Option Value) (news : List (Addr × Obj)) (g : Obj → List (Addr × Obj)) (ts : Array Value) (s : Shared) (Q E : Value → Shared → Prop),
    Below A₀ base outer h₀ → Fr h₀ L s.heap m → (K w.params).In h₀ → News h₀ L s.heap news → Top p loose mean mg mb h₀ → cs.kind = .function → UpdF 57 (tabObj ts) news g → TS lamPs qLam ts news → 0 < s.toks → dp + dep < recursionLimit → un + unt < cLine →
    (∀ v tl h' tk' ts', R v tl → (∀ q ∈ news, ∀ p ∈ tl, q.1 < p.1) → TS lamPs qLam ts' (tl ++ g (tabObj ts')) → Fr h₀ L h' m → News h₀ L h' (tl ++ g (tabObj ts')) → Q v { s with heap := h', toks := tk' }) →
    wpAny (model PySem.Challenge.pw_rx0107_01 w) (ktrTop dp un gd cn cs L a ccd cl outer) (call (.ref f) vs) Q E s
set_option maxHeartbeats 16000000 in
theorem c_trans (w : World) (x : List Nat) (t : Tok) (S : Value) (hS : StarV S) (ud : Tok) (hz : x.length ≤ 1000) (hh : 45 ∉ x) : ConT w 62 [.str ⟨x.toArray⟩ t, S, .str (Str.ofString ".") ud] 4 60 (fun v tl => ∃ D vs n, v = .ref D ∧ (D, listOf vs.toArray n) ∈ tl ∧ PA S vs (transL false x)) := by
  intro p loose mean mg mb dp un gd cn cs a ccd cl outer A₀ base h₀ L m news g ts s Q E B F X N T hk U hts hpos hd hu hret
  have hz9 : x.length ≤ 100000 := Nat.le_trans hz (by decide)
  (refine wpAny_call ?_; k_dflt cell_enter; (try dsimp only [bd3, bd6, bd8, bd9, bd12, bd14, bd16, bd17, bd18, bd19, bd20, bd21, bd22, bd23, ar3, ar6, ar8, ar9, ar12, ar14, ar16, ar17, ar18, ar19, ar20, ar21, ar22, ar23, sc3, sc6, sc8, sc9, sc12, sc14, sc16, sc17, sc18, sc19, sc20, sc21, sc22, sc23] at *); (try simp only [List.map_cons, List.map_nil, List.nil_append, List.append_nil, List.cons_append] at *); (refine let_env ?_); intro A1 e1)
  (repeat' (first | (k_unfold; (try dsimp only)) | (k_end; wrow_close) | ((with_reducible show wpAny _ _ (execs (_ :: _) _) _ _ _); first | ((with_reducible show wpAny _ _ (execs (Stmt.If _ _ _ _ :: _) _) _ _ _); first | walk_at "execs cons If nil" | walk_at "execs cons If cons") | ((try dsimp only); (refine gen_up ?_); intro _ up9; (try dsimp only at up9); (refine wpAny_execs_cons ?_); (revert up9; intro _))) | ((with_reducible show wpAny _ _ (call (Value.builtin "len") _ _) _ _ _); (k_dflt (refine' len_tx (by first | assumption | omega) ?_); (try dsimp only))) | ((with_reducible show wpAny _ _ (getAttr (Value.ref _) _ _) _ _ _); (k_dflt (refine' getattr_append (by k_asm) (by k_asm) (by walk_at "mine_mem") ?_); intro _ _ _ _ _; (try dsimp only))) | walk1 | (dsimp only; first | ((with_reducible show wpAny _ _ (execs (_ :: _) _) _ _ _); first | ((with_reducible show wpAny _ _ (execs (Stmt.If _ _ _ _ :: _) _) _ _ _); first | walk_at "execs cons If nil" | walk_at "execs cons If cons") | ((try dsimp only); (refine gen_up ?_); intro _ up9; (try dsimp only at up9); (refine wpAny_execs_cons ?_); (revert up9; intro _))) | ((with_reducible show wpAny _ _ (call (Value.builtin "len") _ _) _ _ _); (k_dflt (refine' len_tx (by first | assumption | omega) ?_); (try dsimp only))) | ((with_reducible show wpAny _ _ (getAttr (Value.ref _) _ _) _ _ _); (k_dflt (refine' getattr_append (by k_asm) (by k_asm) (by walk_at "mine_mem") ?_); intro _ _ _ _ _; (try dsimp only))) | walk1) | (leave1; walk_say "STEP leave1"; try dsimp only) | fail "no step"))
  unfold StopW
  rename_i FG B1 X1 T1 tA uA l h6 l1 h5 tB uB q h9 o9 h4 tC uC D h3 lD h2 ti h1 tn hh1 F1 N1 tD uD
  have hql : q ≠ l := Nat.ne_of_gt (o9 _ (.head _))
  have hnl : ∀ p ∈ news, p.1 ≠ l := fun p hp => Nat.ne_of_lt (l1 p hp)
  have hnq : ∀ p ∈ news, p.1 ≠ q := fun p hp => Nat.ne_of_lt (o9 p (.tail _ hp))
  refine while_toT (σ := TSt) (fun c => (q, boundO "list.append" l) :: (l, listOf c.us.toArray c.k) :: (c.ex ++ g (tabObj c.ts))) (fun c => [(Str.ofString "i", .int c.i c.ti)]) [Str.ofString "c", Str.ofString "j", Str.ofString "stuff"]
    (fun c => TRI x c.i c.us S c.ps ∧ TIn g news l q qLam c.ex c.ts) (fun c => TRI x c.i c.us S c.ps ∧ TIn g news l q qLam c.ex c.ts ∧ c.i = x.length) (fun c => x.length - c.i) ⟨0, tn, [], [], 0, [], ts⟩ F1 ?kn ?kk ?kp ?turn ?rest
  case kn =>
    obtain ⟨pre, post, e1, e2, _⟩ := U.split
    dsimp only [List.nil_append]
    rw [e2, ← e1]
    exact fun p hp => N1 p (List.mem_cons_of_mem _ hp)
  case kk => kst_all
  case kp => exact ⟨⟨Nat.zero_le _, .nil, Nat.zero_le _, rfl⟩, ⟨by rw [List.nil_append, updf_same U]; exact hts, (fun _ _ _ h => nomatch h), (fun _ h => nomatch h)⟩⟩
  case rest =>
    intro c u h tk uq hp F2 N2
    clear F1 N1
    obtain ⟨i, ti, us, ps, k, ex, ts⟩ := c
    dsimp only at hp F2 N2 ⊢
    obtain ⟨hi, ht, he⟩ := hp
    have he' : (i : Int) = x.length := om10 he
    (repeat' (first | (k_unfold; (try dsimp only)) | (k_end; wrow_close) | ((with_reducible show wpAny _ _ (execs (_ :: _) _) _ _ _); first | ((with_reducible show wpAny _ _ (execs (Stmt.If _ _ _ _ :: _) _) _ _ _); first | walk_at "execs cons If nil" | walk_at "execs cons If cons") | ((try dsimp only); (refine gen_up ?_); intro _ up9; (try dsimp only at up9); (refine wpAny_execs_cons ?_); (revert up9; intro _))) | walk1 | (dsimp only; first | ((with_reducible show wpAny _ _ (execs (_ :: _) _) _ _ _); first | ((with_reducible show wpAny _ _ (execs (Stmt.If _ _ _ _ :: _) _) _ _ _); first | walk_at "execs cons If nil" | walk_at "execs cons If cons") | ((try dsimp only); (refine gen_up ?_); intro _ up9; (try dsimp only at up9); (refine wpAny_execs_cons ?_); (revert up9; intro _))) | walk1) | (leave1; walk_say "STEP leave1"; try dsimp only) | fail "no step"))
    rename Fr h₀ L _ m => Ff
    rename News h₀ L _ ((q, boundO "list.append" l) :: _) => Nf
    refine hret (.ref l) ((l, listOf us.toArray k) :: ex) _ _ ts ⟨l, us, k, rfl, .head _, ?_⟩ ?_ (ht.ts.mono fun _ h => .tail _ h) Ff fun p hp => Nf p (.tail _ hp)
    · have e1 := hi.eq
      rw [he, List.drop_length, tr_nil, List.append_nil] at e1
      rw [← e1]; exact hi.pa
    · intro a ha p hp
      rcases List.mem_cons.mp hp with rfl | hp
      · exact l1 a ha
      · exact ht.gt a ha p hp
  case turn =>
    intro c u h tk uq hp F2 N2
    clear F1 N1
    obtain ⟨i, ti, us, ps, k, ex, ts⟩ := c
    dsimp only at hp F2 N2 ⊢
    dsimp only at uq
    obtain ⟨hi, ht⟩ := hp
    have hlen := hi.pa.length
    have hle := hi.le
    have hl2 := hi.len
    have hnn : ∀ p ∈ ex ++ g (tabObj ts), p.1 ≠ l := by
      intro p hp
      rcases List.mem_append.mp hp with hp | hp
      · exact (ht.nl p hp).1
      · obtain ⟨p', h1, h2⟩ := updf_addr U hp
        rw [← h2]; exact hnl p' h1
    by_cases hin : i < x.length
    · have hi' : (i : Int) < x.length := om2 hin
      have hus9 : us.length ≤ 1000 := Nat.le_trans (Nat.le_of_eq hlen) (Nat.le_trans hl2 (Nat.le_trans (Nat.le_of_lt hin) hz))
      have hx : x[i]? = some x[i] := List.getElem?_eq_getElem hin
      have hx1 : x.drop i = x[i] :: x.drop (i + 1) := List.drop_eq_getElem_cons hin
      (repeat' (first | (k_unfold; (try dsimp only)) | (k_end; wrow_close) | ((with_reducible show wpAny _ _ (exec (Stmt.If _ _ _ _) _) _ _ _); ((fail_if_success (rename Pass0 => np9)); refine stopW ?_)) | ((with_reducible show wpAny _ _ (execs (_ :: _) _) _ _ _); first | ((with_reducible show wpAny _ _ (execs (Stmt.If _ _ _ _ :: _) _) _ _ _); first | walk_at "execs cons If nil" | walk_at "execs cons If cons") | ((try dsimp only); (refine gen_up ?_); intro _ up9; (try dsimp only at up9); (refine wpAny_execs_cons ?_); (revert up9; intro _))) | ((with_reducible show wpAny _ _ (subscriptTail (PySem.Expr.Name _ _) (PySem.Expr.Name _ _) (Value.str _ _) (Value.int _ _)) _ _ _); (k_dflt (first | refine' item_txC (by assumption) (by assumption) ?_ | refine' item_txD (by assumption) (by assumption) ?_ | refine' item_tx (by first | assumption | omega) (by decide) (by (first | assumption | ((simp only [Int.toNat_natCast, Int.toNat_natCast_add_one]); assumption) | ((rename (_ : List _)[_]? = some _ => hx9); (simpa using hx9)))) ?_); intro _; (try dsimp only))) | walk1 | (dsimp only; first | ((with_reducible show wpAny _ _ (exec (Stmt.If _ _ _ _) _) _ _ _); ((fail_if_success (rename Pass0 => np9)); refine stopW ?_)) | ((with_reducible show wpAny _ _ (execs (_ :: _) _) _ _ _); first | ((with_reducible show wpAny _ _ (execs (Stmt.If _ _ _ _ :: _) _) _ _ _); first | walk_at "execs cons If nil" | walk_at "execs cons If cons") | ((try dsimp only); (refine gen_up ?_); intro _ up9; (try dsimp only at up9); (refine wpAny_execs_cons ?_); (revert up9; intro _))) | ((with_reducible show wpAny _ _ (subscriptTail (PySem.Expr.Name _ _) (PySem.Expr.Name _ _) (Value.str _ _) (Value.int _ _)) _ _ _); (k_dflt (first | refine' item_txC (by assumption) (by assumption) ?_ | refine' item_txD (by assumption) (by assumption) ?_ | refine' item_tx (by first | assumption | omega) (by decide) (by (first | assumption | ((simp only [Int.toNat_natCast, Int.toNat_natCast_add_one]); assumption) | ((rename (_ : List _)[_]? = some _ => hx9); (simpa using hx9)))) ?_); intro _; (try dsimp only))) | walk1) | (leave1; walk_say "STEP leave1"; try dsimp only) | fail "no step"))
      unfold StopW
      refine q_abs ?_
      intro qT hqT
      have hp0 : Pass0 := .on
      by_cases h42 : x[i] = 42
      · --A<
        cases hv : us.getLast? with
        | none =>
          have hus : us = [] := List.getLast?_eq_none_iff.mp hv
          subst hus
          have hps : ps = [] := List.length_eq_zero_iff.mp hlen.symm
          subst hps
          (repeat' (first | (k_unfold; (try dsimp only)) | (k_end; wrow_close) | ((with_reducible show wpAny _ _ (compareOp PySem.CmpOp.Eq (Value.str _ _) (Value.str _ _)) _ _ _); (k_dflt (first | (refine' eq_tx true (by walk_at "mine_eq") ?_) | (refine' eq_tx false (by walk_at "mine_eq") ?_)))) | ((with_reducible show wpAny _ _ (execs (_ :: _) _) _ _ _); first | ((with_reducible show wpAny _ _ (execs (Stmt.If _ _ _ _ :: _) _) _ _ _); first | walk_at "execs cons If nil" | walk_at "execs cons If cons") | ((try dsimp only); (refine gen_up ?_); intro _ up9; (try dsimp only at up9); (refine wpAny_execs_cons ?_); (revert up9; intro _))) | (((with_reducible show wpAny _ _ (call (Value.ref _) [_]) _ _ _); k_dflt (refine' bound_append_V (by k_asm) (by k_asm) (by walk_at "mine_mem") (by walk_at "mine_upd") ?_ (by first | exact om24 (b := 2000) (by assumption) (by decide) | exact om24 (b := 1000) (by assumption) (by decide) | walk_at "mine_sz")); intro _ _ N9; (try dsimp only); (try simp only [List.push_toArray] at N9)); (revert N9; intro _)) | ((with_reducible show (_ : Option Obj) = some (boundO _ _) ∧ _); (refine' and_bound (by k_asm) (by walk_at "mine_mem") ?_)) | ((with_reducible show wpAny _ _ (callWith _ (Value.ref _) _ _ _) _ _ _); k_dflt (refine' callWith_bound (id := "list.append") (by k_asm) (by walk_at "mine_mem") ?_)) | walk1 | (dsimp only; first | ((with_reducible show wpAny _ _ (compareOp PySem.CmpOp.Eq (Value.str _ _) (Value.str _ _)) _ _ _); (k_dflt (first | (refine' eq_tx true (by walk_at "mine_eq") ?_) | (refine' eq_tx false (by walk_at "mine_eq") ?_)))) | ((with_reducible show wpAny _ _ (execs (_ :: _) _) _ _ _); first | ((with_reducible show wpAny _ _ (execs (Stmt.If _ _ _ _ :: _) _) _ _ _); first | walk_at "execs cons If nil" | walk_at "execs cons If cons") | ((try dsimp only); (refine gen_up ?_); intro _ up9; (try dsimp only at up9); (refine wpAny_execs_cons ?_); (revert up9; intro _))) | (((with_reducible show wpAny _ _ (call (Value.ref _) [_]) _ _ _); k_dflt (refine' bound_append_V (by k_asm) (by k_asm) (by walk_at "mine_mem") (by walk_at "mine_upd") ?_ (by first | exact om24 (b := 2000) (by assumption) (by decide) | exact om24 (b := 1000) (by assumption) (by decide) | walk_at "mine_sz")); intro _ _ N9; (try dsimp only); (try simp only [List.push_toArray] at N9)); (revert N9; intro _)) | ((with_reducible show (_ : Option Obj) = some (boundO _ _) ∧ _); (refine' and_bound (by k_asm) (by walk_at "mine_mem") ?_)) | ((with_reducible show wpAny _ _ (callWith _ (Value.ref _) _ _ _) _ _ _); k_dflt (refine' callWith_bound (id := "list.append") (by k_asm) (by walk_at "mine_mem") ?_)) | walk1) | (leave1; walk_say "STEP leave1"; try dsimp only) | fail "no step"))
          rename_i F3 N3
          refine hqT _ _ ?_
          (repeat' (first | (k_unfold; (try dsimp only)) | (k_end; wrow_close) | ((with_reducible show KswEnd _ _ _ _ _ _ _ _ _ _ _ _); refine stopW ?_) | walk1 | (dsimp only; first | ((with_reducible show KswEnd _ _ _ _ _ _ _ _ _ _ _ _); refine stopW ?_) | walk1) | (leave1; walk_say "STEP leave1"; try dsimp only) | fail "no step"))
          refine ksw_end ⟨i + 1, _, [S], [none], k + 1, ex, ts⟩ F3 N3 (fun _ h => h) trivial (by kst_all) (by (intro z9 h29 h39; (with_reducible (repeat (first | exact rfl | refine off_st h39 ?_ | refine off_st0 ?_ | refine off_nil ?_ | refine off_ite (by first | exact h29 _ me0 | exact h29 _ me1 | exact h29 _ me2 | exact h29 _ me3 | exact ne_st h39 me0 | exact ne_st h39 me1 | exact ne_st h39 me2) ?_ | refine off_kst (by first | exact h29 _ me0 | exact h29 _ me1 | exact h29 _ me2 | exact h29 _ me3 | exact ne_st h39 me0 | exact ne_st h39 me1 | exact ne_st h39 me2) ?_))); try exact rfl)) ⟨⟨hin, .star .nil, by simp, ?_⟩, ht⟩ (om9 hin)
          dsimp only
          rw [← hi.eq, hx1, h42, tr_star]; rfl
        | some v =>
          have hune : us ≠ [] := fun e => by rw [e] at hv; cases hv
          have hupos : 0 < us.length := List.length_pos_iff.mpr hune
          rcases hi.pa.last hv with ⟨hls, rfl⟩ | ⟨hls, y, uy, rfl⟩
          · (repeat' (first | (k_unfold; (try dsimp only)) | (k_end; wrow_close) | ((with_reducible show wpAny _ _ (compareOp PySem.CmpOp.Eq (Value.str _ _) (Value.str _ _)) _ _ _); (k_dflt (first | (refine' eq_tx true (by walk_at "mine_eq") ?_) | (refine' eq_tx false (by walk_at "mine_eq") ?_)))) | ((with_reducible show wpAny _ _ (truthy (Value.ref _)) _ _ _); (k_dflt (refine' truthy_some (by k_asm) (by walk_at "mine_mem") (by exact om23 (b := 1000) (by assumption) (by decide)) (by assumption) ?_); (try dsimp only))) | ((with_reducible show wpAny _ _ (execs (_ :: _) _) _ _ _); first | ((with_reducible show wpAny _ _ (execs (Stmt.If _ _ _ _ :: _) _) _ _ _); first | walk_at "execs cons If nil" | walk_at "execs cons If cons") | ((try dsimp only); (refine gen_up ?_); intro _ up9; (try dsimp only at up9); (refine wpAny_execs_cons ?_); (revert up9; intro _))) | ((with_reducible show wpAny _ _ (subscriptTail (PySem.Expr.Name _ _) (PySem.Expr.UnaryOp _ _ _) (Value.ref _) (Value.int _ _)) _ _ _); (k_dflt (refine' item_last (by k_asm) (by walk_at "mine_mem") (by assumption) ?_); (try dsimp only))) | ((with_reducible show wpAny _ _ (compareOp PySem.CmpOp.IsNot _ _) _ _ _); ((refine isnot_star (by assumption) ?_))) | walk1 | (dsimp only; first | ((with_reducible show wpAny _ _ (compareOp PySem.CmpOp.Eq (Value.str _ _) (Value.str _ _)) _ _ _); (k_dflt (first | (refine' eq_tx true (by walk_at "mine_eq") ?_) | (refine' eq_tx false (by walk_at "mine_eq") ?_)))) | ((with_reducible show wpAny _ _ (truthy (Value.ref _)) _ _ _); (k_dflt (refine' truthy_some (by k_asm) (by walk_at "mine_mem") (by exact om23 (b := 1000) (by assumption) (by decide)) (by assumption) ?_); (try dsimp only))) | ((with_reducible show wpAny _ _ (execs (_ :: _) _) _ _ _); first | ((with_reducible show wpAny _ _ (execs (Stmt.If _ _ _ _ :: _) _) _ _ _); first | walk_at "execs cons If nil" | walk_at "execs cons If cons") | ((try dsimp only); (refine gen_up ?_); intro _ up9; (try dsimp only at up9); (refine wpAny_execs_cons ?_); (revert up9; intro _))) | ((with_reducible show wpAny _ _ (subscriptTail (PySem.Expr.Name _ _) (PySem.Expr.UnaryOp _ _ _) (Value.ref _) (Value.int _ _)) _ _ _); (k_dflt (refine' item_last (by k_asm) (by walk_at "mine_mem") (by assumption) ?_); (try dsimp only))) | ((with_reducible show wpAny _ _ (compareOp PySem.CmpOp.IsNot _ _) _ _ _); ((refine isnot_star (by assumption) ?_))) | walk1) | (leave1; walk_say "STEP leave1"; try dsimp only) | fail "no step"))
            rename News _ _ _ _ => N3
            rename Fr _ _ _ _ => F3
            refine hqT _ _ ?_
            (repeat' (first | (k_unfold; (try dsimp only)) | (k_end; wrow_close) | ((with_reducible show KswEnd _ _ _ _ _ _ _ _ _ _ _ _); refine stopW ?_) | walk1 | (dsimp only; first | ((with_reducible show KswEnd _ _ _ _ _ _ _ _ _ _ _ _); refine stopW ?_) | walk1) | (leave1; walk_say "STEP leave1"; try dsimp only) | fail "no step"))
            refine ksw_end ⟨i + 1, _, us, ps, k, ex, ts⟩ F3 N3 (fun _ h => h) trivial (by kst_all) (by (intro z9 h29 h39; (with_reducible (repeat (first | exact rfl | refine off_st h39 ?_ | refine off_st0 ?_ | refine off_nil ?_ | refine off_ite (by first | exact h29 _ me0 | exact h29 _ me1 | exact h29 _ me2 | exact h29 _ me3 | exact ne_st h39 me0 | exact ne_st h39 me1 | exact ne_st h39 me2) ?_ | refine off_kst (by first | exact h29 _ me0 | exact h29 _ me1 | exact h29 _ me2 | exact h29 _ me3 | exact ne_st h39 me0 | exact ne_st h39 me1 | exact ne_st h39 me2) ?_))); try exact rfl)) ⟨⟨hin, hi.pa, Nat.le_succ_of_le hl2, ?_⟩, ht⟩ (om9 hin)
            dsimp only
            rw [← hi.eq, hx1, h42, hls, tr_star]; rfl
          · (repeat' (first | (k_unfold; (try dsimp only)) | (k_end; wrow_close) | ((with_reducible show wpAny _ _ (compareOp PySem.CmpOp.Eq (Value.str _ _) (Value.str _ _)) _ _ _); (k_dflt (first | (refine' eq_tx true (by walk_at "mine_eq") ?_) | (refine' eq_tx false (by walk_at "mine_eq") ?_)))) | ((with_reducible show wpAny _ _ (truthy (Value.ref _)) _ _ _); (k_dflt (refine' truthy_some (by k_asm) (by walk_at "mine_mem") (by exact om23 (b := 1000) (by assumption) (by decide)) (by assumption) ?_); (try dsimp only))) | ((with_reducible show wpAny _ _ (execs (_ :: _) _) _ _ _); first | ((with_reducible show wpAny _ _ (execs (Stmt.If _ _ _ _ :: _) _) _ _ _); first | walk_at "execs cons If nil" | walk_at "execs cons If cons") | ((try dsimp only); (refine gen_up ?_); intro _ up9; (try dsimp only at up9); (refine wpAny_execs_cons ?_); (revert up9; intro _))) | ((with_reducible show wpAny _ _ (subscriptTail (PySem.Expr.Name _ _) (PySem.Expr.UnaryOp _ _ _) (Value.ref _) (Value.int _ _)) _ _ _); (k_dflt (refine' item_last (by k_asm) (by walk_at "mine_mem") (by assumption) ?_); (try dsimp only))) | (((with_reducible show wpAny _ _ (call (Value.ref _) [_]) _ _ _); k_dflt (refine' bound_append_V (by k_asm) (by k_asm) (by walk_at "mine_mem") (by walk_at "mine_upd") ?_ (by first | exact om24 (b := 2000) (by assumption) (by decide) | exact om24 (b := 1000) (by assumption) (by decide) | walk_at "mine_sz")); intro _ _ N9; (try dsimp only); (try simp only [List.push_toArray] at N9)); (revert N9; intro _)) | ((with_reducible show (_ : Option Obj) = some (boundO _ _) ∧ _); (refine' and_bound (by k_asm) (by walk_at "mine_mem") ?_)) | ((with_reducible show wpAny _ _ (callWith _ (Value.ref _) _ _ _) _ _ _); k_dflt (refine' callWith_bound (id := "list.append") (by k_asm) (by walk_at "mine_mem") ?_)) | ((with_reducible show wpAny _ _ (compareOp PySem.CmpOp.IsNot _ _) _ _ _); ((refine isnot_str (by assumption) ?_))) | walk1 | (dsimp only; first | ((with_reducible show wpAny _ _ (compareOp PySem.CmpOp.Eq (Value.str _ _) (Value.str _ _)) _ _ _); (k_dflt (first | (refine' eq_tx true (by walk_at "mine_eq") ?_) | (refine' eq_tx false (by walk_at "mine_eq") ?_)))) | ((with_reducible show wpAny _ _ (truthy (Value.ref _)) _ _ _); (k_dflt (refine' truthy_some (by k_asm) (by walk_at "mine_mem") (by exact om23 (b := 1000) (by assumption) (by decide)) (by assumption) ?_); (try dsimp only))) | ((with_reducible show wpAny _ _ (execs (_ :: _) _) _ _ _); first | ((with_reducible show wpAny _ _ (execs (Stmt.If _ _ _ _ :: _) _) _ _ _); first | walk_at "execs cons If nil" | walk_at "execs cons If cons") | ((try dsimp only); (refine gen_up ?_); intro _ up9; (try dsimp only at up9); (refine wpAny_execs_cons ?_); (revert up9; intro _))) | ((with_reducible show wpAny _ _ (subscriptTail (PySem.Expr.Name _ _) (PySem.Expr.UnaryOp _ _ _) (Value.ref _) (Value.int _ _)) _ _ _); (k_dflt (refine' item_last (by k_asm) (by walk_at "mine_mem") (by assumption) ?_); (try dsimp only))) | (((with_reducible show wpAny _ _ (call (Value.ref _) [_]) _ _ _); k_dflt (refine' bound_append_V (by k_asm) (by k_asm) (by walk_at "mine_mem") (by walk_at "mine_upd") ?_ (by first | exact om24 (b := 2000) (by assumption) (by decide) | exact om24 (b := 1000) (by assumption) (by decide) | walk_at "mine_sz")); intro _ _ N9; (try dsimp only); (try simp only [List.push_toArray] at N9)); (revert N9; intro _)) | ((with_reducible show (_ : Option Obj) = some (boundO _ _) ∧ _); (refine' and_bound (by k_asm) (by walk_at "mine_mem") ?_)) | ((with_reducible show wpAny _ _ (callWith _ (Value.ref _) _ _ _) _ _ _); k_dflt (refine' callWith_bound (id := "list.append") (by k_asm) (by walk_at "mine_mem") ?_)) | ((with_reducible show wpAny _ _ (compareOp PySem.CmpOp.IsNot _ _) _ _ _); ((refine isnot_str (by assumption) ?_))) | walk1) | (leave1; walk_say "STEP leave1"; try dsimp only) | fail "no step"))
            rename_i F3 N3
            refine hqT _ _ ?_
            (repeat' (first | (k_unfold; (try dsimp only)) | (k_end; wrow_close) | ((with_reducible show KswEnd _ _ _ _ _ _ _ _ _ _ _ _); refine stopW ?_) | walk1 | (dsimp only; first | ((with_reducible show KswEnd _ _ _ _ _ _ _ _ _ _ _ _); refine stopW ?_) | walk1) | (leave1; walk_say "STEP leave1"; try dsimp only) | fail "no step"))
            refine ksw_end ⟨i + 1, _, us ++ [S], ps ++ [none], k + 1, ex, ts⟩ F3 N3 (fun _ h => h) trivial (by kst_all) (by (intro z9 h29 h39; (with_reducible (repeat (first | exact rfl | refine off_st h39 ?_ | refine off_st0 ?_ | refine off_nil ?_ | refine off_ite (by first | exact h29 _ me0 | exact h29 _ me1 | exact h29 _ me2 | exact h29 _ me3 | exact ne_st h39 me0 | exact ne_st h39 me1 | exact ne_st h39 me2) ?_ | refine off_kst (by first | exact h29 _ me0 | exact h29 _ me1 | exact h29 _ me2 | exact h29 _ me3 | exact ne_st h39 me0 | exact ne_st h39 me1 | exact ne_st h39 me2) ?_))); try exact rfl)) ⟨⟨hin, hi.pa.snoc_star, om42 hl2, ?_⟩, ht⟩ (om9 hin)
            dsimp only
            rw [← hi.eq, lastS_none, hx1, h42, hls, tr_star, List.append_assoc]; rfl
        --A>
      · by_cases h63 : x[i] = 63
        · --A<
          (repeat' (first | (k_unfold; (try dsimp only)) | (k_end; wrow_close) | ((with_reducible show wpAny _ _ (compareOp PySem.CmpOp.Eq (Value.str _ _) (Value.str _ _)) _ _ _); (k_dflt (first | (refine' eq_tx true (by walk_at "mine_eq") ?_) | (refine' eq_tx false (by walk_at "mine_eq") ?_)))) | ((with_reducible show wpAny _ _ (execs (_ :: _) _) _ _ _); first | ((with_reducible show wpAny _ _ (execs (Stmt.If _ _ _ _ :: _) _) _ _ _); first | walk_at "execs cons If nil" | walk_at "execs cons If cons") | ((try dsimp only); (refine gen_up ?_); intro _ up9; (try dsimp only at up9); (refine wpAny_execs_cons ?_); (revert up9; intro _))) | (((with_reducible show wpAny _ _ (call (Value.ref _) [_]) _ _ _); k_dflt (refine' bound_append_V (by k_asm) (by k_asm) (by walk_at "mine_mem") (by walk_at "mine_upd") ?_ (by first | exact om24 (b := 2000) (by assumption) (by decide) | exact om24 (b := 1000) (by assumption) (by decide) | walk_at "mine_sz")); intro _ _ N9; (try dsimp only); (try simp only [List.push_toArray] at N9)); (revert N9; intro _)) | ((with_reducible show (_ : Option Obj) = some (boundO _ _) ∧ _); (refine' and_bound (by k_asm) (by walk_at "mine_mem") ?_)) | ((with_reducible show wpAny _ _ (callWith _ (Value.ref _) _ _ _) _ _ _); k_dflt (refine' callWith_bound (id := "list.append") (by k_asm) (by walk_at "mine_mem") ?_)) | walk1 | (dsimp only; first | ((with_reducible show wpAny _ _ (compareOp PySem.CmpOp.Eq (Value.str _ _) (Value.str _ _)) _ _ _); (k_dflt (first | (refine' eq_tx true (by walk_at "mine_eq") ?_) | (refine' eq_tx false (by walk_at "mine_eq") ?_)))) | ((with_reducible show wpAny _ _ (execs (_ :: _) _) _ _ _); first | ((with_reducible show wpAny _ _ (execs (Stmt.If _ _ _ _ :: _) _) _ _ _); first | walk_at "execs cons If nil" | walk_at "execs cons If cons") | ((try dsimp only); (refine gen_up ?_); intro _ up9; (try dsimp only at up9); (refine wpAny_execs_cons ?_); (revert up9; intro _))) | (((with_reducible show wpAny _ _ (call (Value.ref _) [_]) _ _ _); k_dflt (refine' bound_append_V (by k_asm) (by k_asm) (by walk_at "mine_mem") (by walk_at "mine_upd") ?_ (by first | exact om24 (b := 2000) (by assumption) (by decide) | exact om24 (b := 1000) (by assumption) (by decide) | walk_at "mine_sz")); intro _ _ N9; (try dsimp only); (try simp only [List.push_toArray] at N9)); (revert N9; intro _)) | ((with_reducible show (_ : Option Obj) = some (boundO _ _) ∧ _); (refine' and_bound (by k_asm) (by walk_at "mine_mem") ?_)) | ((with_reducible show wpAny _ _ (callWith _ (Value.ref _) _ _ _) _ _ _); k_dflt (refine' callWith_bound (id := "list.append") (by k_asm) (by walk_at "mine_mem") ?_)) | walk1) | (leave1; walk_say "STEP leave1"; try dsimp only) | fail "no step"))
          rename_i F3 N3
          refine hqT _ _ ?_
          (repeat' (first | (k_unfold; (try dsimp only)) | (k_end; wrow_close) | ((with_reducible show KswEnd _ _ _ _ _ _ _ _ _ _ _ _); refine stopW ?_) | walk1 | (dsimp only; first | ((with_reducible show KswEnd _ _ _ _ _ _ _ _ _ _ _ _); refine stopW ?_) | walk1) | (leave1; walk_say "STEP leave1"; try dsimp only) | fail "no step"))
          refine ksw_end ⟨i + 1, _, us ++ [.str (Str.ofString ".") ud], ps ++ [some [46]], k + 1, ex, ts⟩ F3 N3 (fun _ h => h) trivial (by kst_all) (by (intro z9 h29 h39; (with_reducible (repeat (first | exact rfl | refine off_st h39 ?_ | refine off_st0 ?_ | refine off_nil ?_ | refine off_ite (by first | exact h29 _ me0 | exact h29 _ me1 | exact h29 _ me2 | exact h29 _ me3 | exact ne_st h39 me0 | exact ne_st h39 me1 | exact ne_st h39 me2) ?_ | refine off_kst (by first | exact h29 _ me0 | exact h29 _ me1 | exact h29 _ me2 | exact h29 _ me3 | exact ne_st h39 me0 | exact ne_st h39 me1 | exact ne_st h39 me2) ?_))); try exact rfl)) ⟨⟨hin, hi.pa.snoc_str, om42 hl2, ?_⟩, ht⟩ (om9 hin)
          dsimp only
          rw [← hi.eq, lastS_some, hx1, h63, tr_any, List.append_assoc]; rfl
          --A>
        · by_cases h91 : x[i] = 91
          · (repeat' (first | (k_unfold; (try dsimp only)) | (k_end; wrow_close) | ((fail_if_success (rename Pass => np9)); (with_reducible show wpAny _ _ (exec (Stmt.If (PySem.Expr.BoolOp BoolOp.And _ _) _ _ _) _) _ _ _); refine stopW ?_) | ((with_reducible show wpAny _ _ (compareOp PySem.CmpOp.Eq (Value.str _ _) (Value.str _ _)) _ _ _); (k_dflt (first | (refine' eq_tx true (by walk_at "mine_eq") ?_) | (refine' eq_tx false (by walk_at "mine_eq") ?_)))) | ((with_reducible show wpAny _ _ (execs (_ :: _) _) _ _ _); first | ((with_reducible show wpAny _ _ (execs (Stmt.If _ _ _ _ :: _) _) _ _ _); first | walk_at "execs cons If nil" | walk_at "execs cons If cons") | ((try dsimp only); (refine gen_up ?_); intro _ up9; (try dsimp only at up9); (refine wpAny_execs_cons ?_); (revert up9; intro _))) | walk1 | (dsimp only; first | ((fail_if_success (rename Pass => np9)); (with_reducible show wpAny _ _ (exec (Stmt.If (PySem.Expr.BoolOp BoolOp.And _ _) _ _ _) _) _ _ _); refine stopW ?_) | ((with_reducible show wpAny _ _ (compareOp PySem.CmpOp.Eq (Value.str _ _) (Value.str _ _)) _ _ _); (k_dflt (first | (refine' eq_tx true (by walk_at "mine_eq") ?_) | (refine' eq_tx false (by walk_at "mine_eq") ?_)))) | ((with_reducible show wpAny _ _ (execs (_ :: _) _) _ _ _); first | ((with_reducible show wpAny _ _ (execs (Stmt.If _ _ _ _ :: _) _) _ _ _); first | walk_at "execs cons If nil" | walk_at "execs cons If cons") | ((try dsimp only); (refine gen_up ?_); intro _ up9; (try dsimp only at up9); (refine wpAny_execs_cons ?_); (revert up9; intro _))) | walk1) | (leave1; walk_say "STEP leave1"; try dsimp only) | fail "no step"))
            unfold StopW
            clear hret
            rename News _ _ _ _ => N3
            rename Fr _ _ _ _ => F3
            refine cut_toT (σ := Nat × Tok) (fun _ => (q, boundO "list.append" l) :: (l, listOf us.toArray k) :: (ex ++ g (tabObj ts))) (fun c => [(Str.ofString "j", .int c.1 c.2)]) [] (fun c => c.1 = i + 1 + sc0 (x.drop (i + 1)))  F3 ?if1 ?rest1
            case if1 =>
              --A<
              have e0 : (x.drop (i + 1))[0]? = x[i + 1]? := by rw [List.getElem?_drop]
              have hpass : Pass := .on
              by_cases hA : i + 1 < x.length
              · have hA' : (i : Int) + 1 < x.length := om6 hA
                have hxA : x[((i : Int) + 1).toNat]? = some x[i + 1] := List.getElem?_eq_getElem hA
                have hxB : x[i + 1]? = some x[i + 1] := List.getElem?_eq_getElem hA
                by_cases hB : x[i + 1] = 33
                · (repeat' (first | (k_unfold; (try dsimp only)) | (k_end; wrow_close) | ((with_reducible show wpAny _ _ (compareOp PySem.CmpOp.Eq (Value.str _ _) (Value.str _ _)) _ _ _); (k_dflt (first | (refine' eq_tx true (by walk_at "mine_eq") ?_) | (refine' eq_tx false (by walk_at "mine_eq") ?_)))) | ((with_reducible show wpAny _ _ (execs (_ :: _) _) _ _ _); first | ((with_reducible show wpAny _ _ (execs (Stmt.If _ _ _ _ :: _) _) _ _ _); first | walk_at "execs cons If nil" | walk_at "execs cons If cons") | ((try dsimp only); (refine gen_up ?_); intro _ up9; (try dsimp only at up9); (refine wpAny_execs_cons ?_); (revert up9; intro _))) | ((with_reducible show wpAny _ _ (subscriptTail (PySem.Expr.Name _ _) (PySem.Expr.Name _ _) (Value.str _ _) (Value.int _ _)) _ _ _); (k_dflt (first | refine' item_txC (by assumption) (by assumption) ?_ | refine' item_txD (by assumption) (by assumption) ?_ | refine' item_tx (by first | assumption | omega) (by decide) (by (first | assumption | ((simp only [Int.toNat_natCast, Int.toNat_natCast_add_one]); assumption) | ((rename (_ : List _)[_]? = some _ => hx9); (simpa using hx9)))) ?_); intro _; (try dsimp only))) | walk1 | (dsimp only; first | ((with_reducible show wpAny _ _ (compareOp PySem.CmpOp.Eq (Value.str _ _) (Value.str _ _)) _ _ _); (k_dflt (first | (refine' eq_tx true (by walk_at "mine_eq") ?_) | (refine' eq_tx false (by walk_at "mine_eq") ?_)))) | ((with_reducible show wpAny _ _ (execs (_ :: _) _) _ _ _); first | ((with_reducible show wpAny _ _ (execs (Stmt.If _ _ _ _ :: _) _) _ _ _); first | walk_at "execs cons If nil" | walk_at "execs cons If cons") | ((try dsimp only); (refine gen_up ?_); intro _ up9; (try dsimp only at up9); (refine wpAny_execs_cons ?_); (revert up9; intro _))) | ((with_reducible show wpAny _ _ (subscriptTail (PySem.Expr.Name _ _) (PySem.Expr.Name _ _) (Value.str _ _) (Value.int _ _)) _ _ _); (k_dflt (first | refine' item_txC (by assumption) (by assumption) ?_ | refine' item_txD (by assumption) (by assumption) ?_ | refine' item_tx (by first | assumption | omega) (by decide) (by (first | assumption | ((simp only [Int.toNat_natCast, Int.toNat_natCast_add_one]); assumption) | ((rename (_ : List _)[_]? = some _ => hx9); (simpa using hx9)))) ?_); intro _; (try dsimp only))) | walk1) | (leave1; walk_say "STEP leave1"; try dsimp only) | fail "no step"))
                  rename News _ _ _ _ => N4
                  rename Fr _ _ _ _ => F4
                  exact wend (i + 1 + 1, _) F4 N4 (fun _ h => h) (by kst_all) (by (intro z9 h29 h39; (with_reducible (repeat (first | exact rfl | refine off_st h39 ?_ | refine off_st0 ?_ | refine off_nil ?_ | refine off_ite (by first | exact h29 _ me0 | exact h29 _ me1 | exact h29 _ me2 | exact h29 _ me3 | exact ne_st h39 me0 | exact ne_st h39 me1 | exact ne_st h39 me2) ?_ | refine off_kst (by first | exact h29 _ me0 | exact h29 _ me1 | exact h29 _ me2 | exact h29 _ me3 | exact ne_st h39 me0 | exact ne_st h39 me1 | exact ne_st h39 me2) ?_))); try exact rfl)) (by unfold sc0; rw [e0, hxB, hB]; rfl)
                · (repeat' (first | (k_unfold; (try dsimp only)) | (k_end; wrow_close) | ((with_reducible show wpAny _ _ (compareOp PySem.CmpOp.Eq (Value.str _ _) (Value.str _ _)) _ _ _); (k_dflt (first | (refine' eq_tx true (by walk_at "mine_eq") ?_) | (refine' eq_tx false (by walk_at "mine_eq") ?_)))) | ((with_reducible show wpAny _ _ (subscriptTail (PySem.Expr.Name _ _) (PySem.Expr.Name _ _) (Value.str _ _) (Value.int _ _)) _ _ _); (k_dflt (first | refine' item_txC (by assumption) (by assumption) ?_ | refine' item_txD (by assumption) (by assumption) ?_ | refine' item_tx (by first | assumption | omega) (by decide) (by (first | assumption | ((simp only [Int.toNat_natCast, Int.toNat_natCast_add_one]); assumption) | ((rename (_ : List _)[_]? = some _ => hx9); (simpa using hx9)))) ?_); intro _; (try dsimp only))) | walk1 | (dsimp only; first | ((with_reducible show wpAny _ _ (compareOp PySem.CmpOp.Eq (Value.str _ _) (Value.str _ _)) _ _ _); (k_dflt (first | (refine' eq_tx true (by walk_at "mine_eq") ?_) | (refine' eq_tx false (by walk_at "mine_eq") ?_)))) | ((with_reducible show wpAny _ _ (subscriptTail (PySem.Expr.Name _ _) (PySem.Expr.Name _ _) (Value.str _ _) (Value.int _ _)) _ _ _); (k_dflt (first | refine' item_txC (by assumption) (by assumption) ?_ | refine' item_txD (by assumption) (by assumption) ?_ | refine' item_tx (by first | assumption | omega) (by decide) (by (first | assumption | ((simp only [Int.toNat_natCast, Int.toNat_natCast_add_one]); assumption) | ((rename (_ : List _)[_]? = some _ => hx9); (simpa using hx9)))) ?_); intro _; (try dsimp only))) | walk1) | (leave1; walk_say "STEP leave1"; try dsimp only) | fail "no step"))
                  rename News _ _ _ _ => N4
                  rename Fr _ _ _ _ => F4
                  exact wend (i + 1, _) F4 N4 (fun _ h => h) (by kst_all) (by (intro z9 h29 h39; (with_reducible (repeat (first | exact rfl | refine off_st h39 ?_ | refine off_st0 ?_ | refine off_nil ?_ | refine off_ite (by first | exact h29 _ me0 | exact h29 _ me1 | exact h29 _ me2 | exact h29 _ me3 | exact ne_st h39 me0 | exact ne_st h39 me1 | exact ne_st h39 me2) ?_ | refine off_kst (by first | exact h29 _ me0 | exact h29 _ me1 | exact h29 _ me2 | exact h29 _ me3 | exact ne_st h39 me0 | exact ne_st h39 me1 | exact ne_st h39 me2) ?_))); try exact rfl)) (by unfold sc0; rw [e0, hxB, if_neg (by simpa using hB)])
              · have hA' : ¬ (i : Int) + 1 < x.length := om7 hA
                k_steps
                rename News _ _ _ _ => N4
                rename Fr _ _ _ _ => F4
                exact wend (i + 1, _) F4 N4 (fun _ h => h) (by kst_all) (by (intro z9 h29 h39; (with_reducible (repeat (first | exact rfl | refine off_st h39 ?_ | refine off_st0 ?_ | refine off_nil ?_ | refine off_ite (by first | exact h29 _ me0 | exact h29 _ me1 | exact h29 _ me2 | exact h29 _ me3 | exact ne_st h39 me0 | exact ne_st h39 me1 | exact ne_st h39 me2) ?_ | refine off_kst (by first | exact h29 _ me0 | exact h29 _ me1 | exact h29 _ me2 | exact h29 _ me3 | exact ne_st h39 me0 | exact ne_st h39 me1 | exact ne_st h39 me2) ?_))); try exact rfl)) (by unfold sc0; rw [e0, List.getElem?_eq_none (Nat.le_of_not_lt hA)]; rfl)
              --A>
            case rest1 =>
              clear F3 N3
              intro c u h tk uq hp F3 N3
              obtain ⟨j, tj⟩ := c
              dsimp only at hp F3 N3 ⊢
              dsimp only at uq
              have hj0 : j ≤ x.length + 1 := by
                have : sc0 (x.drop (i + 1)) ≤ 1 := by unfold sc0; split <;> decide
                exact Nat.le_trans (Nat.le_of_eq hp) (Nat.add_le_add hin this)
              (repeat' (first | (k_unfold; (try dsimp only)) | (k_end; wrow_close) | ((fail_if_success (rename Pass => np9)); (with_reducible show wpAny _ _ (exec (Stmt.If (PySem.Expr.BoolOp BoolOp.And _ _) _ _ _) _) _ _ _); refine stopW ?_) | ((with_reducible show wpAny _ _ (execs (_ :: _) _) _ _ _); first | ((with_reducible show wpAny _ _ (execs (Stmt.If _ _ _ _ :: _) _) _ _ _); first | walk_at "execs cons If nil" | walk_at "execs cons If cons") | ((try dsimp only); (refine gen_up ?_); intro _ up9; (try dsimp only at up9); (refine wpAny_execs_cons ?_); (revert up9; intro _))) | walk1 | (dsimp only; first | ((fail_if_success (rename Pass => np9)); (with_reducible show wpAny _ _ (exec (Stmt.If (PySem.Expr.BoolOp BoolOp.And _ _) _ _ _) _) _ _ _); refine stopW ?_) | ((with_reducible show wpAny _ _ (execs (_ :: _) _) _ _ _); first | ((with_reducible show wpAny _ _ (execs (Stmt.If _ _ _ _ :: _) _) _ _ _); first | walk_at "execs cons If nil" | walk_at "execs cons If cons") | ((try dsimp only); (refine gen_up ?_); intro _ up9; (try dsimp only at up9); (refine wpAny_execs_cons ?_); (revert up9; intro _))) | walk1) | (leave1; walk_say "STEP leave1"; try dsimp only) | fail "no step"))
              unfold StopW
              rename News _ _ _ _ => N4
              rename Fr _ _ _ _ => F4
              refine cut_toT (σ := Nat × Tok) (fun _ => (q, boundO "list.append" l) :: (l, listOf us.toArray k) :: (ex ++ g (tabObj ts))) (fun c => [(Str.ofString "j", .int c.1 c.2)]) [] (fun c => c.1 = i + 1 + sc1 (x.drop (i + 1))) F4 ?if2 ?rest2
              case if2 =>
                --A<
                have hpass : Pass := .on
                have e0 : (x.drop (i + 1))[sc0 (x.drop (i + 1))]? = x[j]? := by rw [List.getElem?_drop, hp]
                by_cases hA : j < x.length
                · have hA' : (j : Int) < x.length := om2 hA
                  have hxA : x[j]? = some x[j] := List.getElem?_eq_getElem hA
                  by_cases hB : x[j] = 93
                  · (repeat' (first | (k_unfold; (try dsimp only)) | (k_end; wrow_close) | ((with_reducible show wpAny _ _ (compareOp PySem.CmpOp.Eq (Value.str _ _) (Value.str _ _)) _ _ _); (k_dflt (first | (refine' eq_tx true (by walk_at "mine_eq") ?_) | (refine' eq_tx false (by walk_at "mine_eq") ?_)))) | ((with_reducible show wpAny _ _ (execs (_ :: _) _) _ _ _); first | ((with_reducible show wpAny _ _ (execs (Stmt.If _ _ _ _ :: _) _) _ _ _); first | walk_at "execs cons If nil" | walk_at "execs cons If cons") | ((try dsimp only); (refine gen_up ?_); intro _ up9; (try dsimp only at up9); (refine wpAny_execs_cons ?_); (revert up9; intro _))) | ((with_reducible show wpAny _ _ (subscriptTail (PySem.Expr.Name _ _) (PySem.Expr.Name _ _) (Value.str _ _) (Value.int _ _)) _ _ _); (k_dflt (first | refine' item_txC (by assumption) (by assumption) ?_ | refine' item_txD (by assumption) (by assumption) ?_ | refine' item_tx (by first | assumption | omega) (by decide) (by (first | assumption | ((simp only [Int.toNat_natCast, Int.toNat_natCast_add_one]); assumption) | ((rename (_ : List _)[_]? = some _ => hx9); (simpa using hx9)))) ?_); intro _; (try dsimp only))) | walk1 | (dsimp only; first | ((with_reducible show wpAny _ _ (compareOp PySem.CmpOp.Eq (Value.str _ _) (Value.str _ _)) _ _ _); (k_dflt (first | (refine' eq_tx true (by walk_at "mine_eq") ?_) | (refine' eq_tx false (by walk_at "mine_eq") ?_)))) | ((with_reducible show wpAny _ _ (execs (_ :: _) _) _ _ _); first | ((with_reducible show wpAny _ _ (execs (Stmt.If _ _ _ _ :: _) _) _ _ _); first | walk_at "execs cons If nil" | walk_at "execs cons If cons") | ((try dsimp only); (refine gen_up ?_); intro _ up9; (try dsimp only at up9); (refine wpAny_execs_cons ?_); (revert up9; intro _))) | ((with_reducible show wpAny _ _ (subscriptTail (PySem.Expr.Name _ _) (PySem.Expr.Name _ _) (Value.str _ _) (Value.int _ _)) _ _ _); (k_dflt (first | refine' item_txC (by assumption) (by assumption) ?_ | refine' item_txD (by assumption) (by assumption) ?_ | refine' item_tx (by first | assumption | omega) (by decide) (by (first | assumption | ((simp only [Int.toNat_natCast, Int.toNat_natCast_add_one]); assumption) | ((rename (_ : List _)[_]? = some _ => hx9); (simpa using hx9)))) ?_); intro _; (try dsimp only))) | walk1) | (leave1; walk_say "STEP leave1"; try dsimp only) | fail "no step"))
                    rename News _ _ _ _ => N5
                    rename Fr _ _ _ _ => F5
                    exact wend (j + 1, _) F5 N5 (fun _ h => h) (by kst_all) (by (intro z9 h29 h39; (with_reducible (repeat (first | exact rfl | refine off_st h39 ?_ | refine off_st0 ?_ | refine off_nil ?_ | refine off_ite (by first | exact h29 _ me0 | exact h29 _ me1 | exact h29 _ me2 | exact h29 _ me3 | exact ne_st h39 me0 | exact ne_st h39 me1 | exact ne_st h39 me2) ?_ | refine off_kst (by first | exact h29 _ me0 | exact h29 _ me1 | exact h29 _ me2 | exact h29 _ me3 | exact ne_st h39 me0 | exact ne_st h39 me1 | exact ne_st h39 me2) ?_))); try exact rfl)) (by dsimp only; unfold sc1; rw [e0, hxA, hB, if_pos rfl]; exact congrArg Nat.succ hp)
                  · (repeat' (first | (k_unfold; (try dsimp only)) | (k_end; wrow_close) | ((with_reducible show wpAny _ _ (compareOp PySem.CmpOp.Eq (Value.str _ _) (Value.str _ _)) _ _ _); (k_dflt (first | (refine' eq_tx true (by walk_at "mine_eq") ?_) | (refine' eq_tx false (by walk_at "mine_eq") ?_)))) | ((with_reducible show wpAny _ _ (subscriptTail (PySem.Expr.Name _ _) (PySem.Expr.Name _ _) (Value.str _ _) (Value.int _ _)) _ _ _); (k_dflt (first | refine' item_txC (by assumption) (by assumption) ?_ | refine' item_txD (by assumption) (by assumption) ?_ | refine' item_tx (by first | assumption | omega) (by decide) (by (first | assumption | ((simp only [Int.toNat_natCast, Int.toNat_natCast_add_one]); assumption) | ((rename (_ : List _)[_]? = some _ => hx9); (simpa using hx9)))) ?_); intro _; (try dsimp only))) | walk1 | (dsimp only; first | ((with_reducible show wpAny _ _ (compareOp PySem.CmpOp.Eq (Value.str _ _) (Value.str _ _)) _ _ _); (k_dflt (first | (refine' eq_tx true (by walk_at "mine_eq") ?_) | (refine' eq_tx false (by walk_at "mine_eq") ?_)))) | ((with_reducible show wpAny _ _ (subscriptTail (PySem.Expr.Name _ _) (PySem.Expr.Name _ _) (Value.str _ _) (Value.int _ _)) _ _ _); (k_dflt (first | refine' item_txC (by assumption) (by assumption) ?_ | refine' item_txD (by assumption) (by assumption) ?_ | refine' item_tx (by first | assumption | omega) (by decide) (by (first | assumption | ((simp only [Int.toNat_natCast, Int.toNat_natCast_add_one]); assumption) | ((rename (_ : List _)[_]? = some _ => hx9); (simpa using hx9)))) ?_); intro _; (try dsimp only))) | walk1) | (leave1; walk_say "STEP leave1"; try dsimp only) | fail "no step"))
                    rename News _ _ _ _ => N5
                    rename Fr _ _ _ _ => F5
                    exact wend (j, _) F5 N5 (fun _ h => h) (by kst_all) (by (intro z9 h29 h39; (with_reducible (repeat (first | exact rfl | refine off_st h39 ?_ | refine off_st0 ?_ | refine off_nil ?_ | refine off_ite (by first | exact h29 _ me0 | exact h29 _ me1 | exact h29 _ me2 | exact h29 _ me3 | exact ne_st h39 me0 | exact ne_st h39 me1 | exact ne_st h39 me2) ?_ | refine off_kst (by first | exact h29 _ me0 | exact h29 _ me1 | exact h29 _ me2 | exact h29 _ me3 | exact ne_st h39 me0 | exact ne_st h39 me1 | exact ne_st h39 me2) ?_))); try exact rfl)) (by dsimp only; unfold sc1; rw [e0, hxA, if_neg (by simpa using hB)]; exact hp)
                · have hA' : ¬ (j : Int) < x.length := om4 hA
                  k_steps
                  rename News _ _ _ _ => N5
                  rename Fr _ _ _ _ => F5
                  exact wend (j, _) F5 N5 (fun _ h => h) (by kst_all) (by (intro z9 h29 h39; (with_reducible (repeat (first | exact rfl | refine off_st h39 ?_ | refine off_st0 ?_ | refine off_nil ?_ | refine off_ite (by first | exact h29 _ me0 | exact h29 _ me1 | exact h29 _ me2 | exact h29 _ me3 | exact ne_st h39 me0 | exact ne_st h39 me1 | exact ne_st h39 me2) ?_ | refine off_kst (by first | exact h29 _ me0 | exact h29 _ me1 | exact h29 _ me2 | exact h29 _ me3 | exact ne_st h39 me0 | exact ne_st h39 me1 | exact ne_st h39 me2) ?_))); try exact rfl)) (by dsimp only; unfold sc1; rw [e0, List.getElem?_eq_none (Nat.le_of_not_lt hA), if_neg (by simp)]; exact hp)
                --A>
              case rest2 =>
                clear F4 N4
                intro c u h tk uq hp F3 N3
                obtain ⟨j, tj⟩ := c
                dsimp only at hp F3 N3 ⊢
                dsimp only at uq
                (repeat' (first | (k_unfold; (try dsimp only)) | (k_end; wrow_close) | ((with_reducible show wpAny _ _ (execs (_ :: _) _) _ _ _); first | ((with_reducible show wpAny _ _ (execs (Stmt.If _ _ _ _ :: _) _) _ _ _); first | walk_at "execs cons If nil" | walk_at "execs cons If cons") | ((try dsimp only); (refine gen_up ?_); intro _ up9; (try dsimp only at up9); (refine wpAny_execs_cons ?_); (revert up9; intro _))) | walk1 | (dsimp only; first | ((with_reducible show wpAny _ _ (execs (_ :: _) _) _ _ _); first | ((with_reducible show wpAny _ _ (execs (Stmt.If _ _ _ _ :: _) _) _ _ _); first | walk_at "execs cons If nil" | walk_at "execs cons If cons") | ((try dsimp only); (refine gen_up ?_); intro _ up9; (try dsimp only at up9); (refine wpAny_execs_cons ?_); (revert up9; intro _))) | walk1) | (leave1; walk_say "STEP leave1"; try dsimp only) | fail "no step"))
                unfold StopW
                rename News _ _ _ _ => N4
                rename Fr _ _ _ _ => F4
                have hb0 := sc1_le (x.drop (i + 1))
                rw [List.length_drop] at hb0
                refine while_toT (σ := Nat × Tok) (fun _ => (q, boundO "list.append" l) :: (l, listOf us.toArray k) :: (ex ++ g (tabObj ts))) (fun c => [(Str.ofString "j", .int c.1 c.2)]) []
                  (fun c => i + 1 + sc1 (x.drop (i + 1)) ≤ c.1 ∧ c.1 ≤ x.length ∧ ∀ k, i + 1 + sc1 (x.drop (i + 1)) ≤ k → k < c.1 → x[k]? ≠ some 93)
                  (fun c => (i + 1 + sc1 (x.drop (i + 1)) ≤ c.1 ∧ c.1 ≤ x.length ∧ ∀ k, i + 1 + sc1 (x.drop (i + 1)) ≤ k → k < c.1 → x[k]? ≠ some 93) ∧ (c.1 = x.length ∨ x[c.1]? = some 93)) (fun c => x.length - c.1) (j, tj) F4 N4 ?k3 ?p3 ?turn3 ?rest3
                case k3 => kst_all
                case p3 => exact ⟨Nat.le_of_eq hp.symm, Nat.le_trans (Nat.le_of_eq hp) (Nat.add_le_of_le_sub' hin hb0), fun k h1 h2 => absurd h2 (Nat.not_lt_of_le (Nat.le_trans (Nat.le_of_eq hp) h1))⟩
                case turn3 =>
                  --A<
                  clear hp F4 N4 
                  intro c u h tk uq hp F3 N3
                  obtain ⟨j, tj⟩ := c
                  dsimp only at hp F3 N3 ⊢
                  dsimp only at uq
                  obtain ⟨hp1, hp2, hp3⟩ := hp
                  by_cases hA : j < x.length
                  · have hA' : (j : Int) < x.length := om2 hA
                    have hxA : x[j]? = some x[j] := List.getElem?_eq_getElem hA
                    by_cases hB : x[j] = 93
                    · (repeat' (first | (k_unfold; (try dsimp only)) | (k_end; wrow_close) | ((with_reducible show wpAny _ _ (compareOp PySem.CmpOp.NotEq (Value.str _ _) (Value.str _ _)) _ _ _); (k_dflt (first | (refine' ne_tx true (by walk_at "mine_eq") ?_) | (refine' ne_tx false (by walk_at "mine_eq") ?_)))) | ((with_reducible show wpAny _ _ (subscriptTail (PySem.Expr.Name _ _) (PySem.Expr.Name _ _) (Value.str _ _) (Value.int _ _)) _ _ _); (k_dflt (first | refine' item_txC (by assumption) (by assumption) ?_ | refine' item_txD (by assumption) (by assumption) ?_ | refine' item_tx (by first | assumption | omega) (by decide) (by (first | assumption | ((simp only [Int.toNat_natCast, Int.toNat_natCast_add_one]); assumption) | ((rename (_ : List _)[_]? = some _ => hx9); (simpa using hx9)))) ?_); intro _; (try dsimp only))) | walk1 | (dsimp only; first | ((with_reducible show wpAny _ _ (compareOp PySem.CmpOp.NotEq (Value.str _ _) (Value.str _ _)) _ _ _); (k_dflt (first | (refine' ne_tx true (by walk_at "mine_eq") ?_) | (refine' ne_tx false (by walk_at "mine_eq") ?_)))) | ((with_reducible show wpAny _ _ (subscriptTail (PySem.Expr.Name _ _) (PySem.Expr.Name _ _) (Value.str _ _) (Value.int _ _)) _ _ _); (k_dflt (first | refine' item_txC (by assumption) (by assumption) ?_ | refine' item_txD (by assumption) (by assumption) ?_ | refine' item_tx (by first | assumption | omega) (by decide) (by (first | assumption | ((simp only [Int.toNat_natCast, Int.toNat_natCast_add_one]); assumption) | ((rename (_ : List _)[_]? = some _ => hx9); (simpa using hx9)))) ?_); intro _; (try dsimp only))) | walk1) | (leave1; walk_say "STEP leave1"; try dsimp only) | fail "no step"))
                      rename News _ _ _ _ => N5
                      rename Fr _ _ _ _ => F5
                      exact wend (j, tj) F5 N5 (fun _ h => h) (by kst_all) (by (intro z9 h29 h39; (with_reducible (repeat (first | exact rfl | refine off_st h39 ?_ | refine off_st0 ?_ | refine off_nil ?_ | refine off_ite (by first | exact h29 _ me0 | exact h29 _ me1 | exact h29 _ me2 | exact h29 _ me3 | exact ne_st h39 me0 | exact ne_st h39 me1 | exact ne_st h39 me2) ?_ | refine off_kst (by first | exact h29 _ me0 | exact h29 _ me1 | exact h29 _ me2 | exact h29 _ me3 | exact ne_st h39 me0 | exact ne_st h39 me1 | exact ne_st h39 me2) ?_))); try exact rfl)) ⟨⟨hp1, hp2, hp3⟩, .inr (by rw [hxA, hB])⟩
                    · (repeat' (first | (k_unfold; (try dsimp only)) | (k_end; wrow_close) | ((with_reducible show KswEnd _ _ _ _ _ _ _ _ _ _ _ _); refine stopW ?_) | ((with_reducible show wpAny _ _ (execs (_ :: _) _) _ _ _); first | ((with_reducible show wpAny _ _ (execs (Stmt.If _ _ _ _ :: _) _) _ _ _); first | walk_at "execs cons If nil" | walk_at "execs cons If cons") | ((try dsimp only); (refine gen_up ?_); intro _ up9; (try dsimp only at up9); (refine wpAny_execs_cons ?_); (revert up9; intro _))) | ((with_reducible show wpAny _ _ (compareOp PySem.CmpOp.NotEq (Value.str _ _) (Value.str _ _)) _ _ _); (k_dflt (first | (refine' ne_tx true (by walk_at "mine_eq") ?_) | (refine' ne_tx false (by walk_at "mine_eq") ?_)))) | ((with_reducible show wpAny _ _ (subscriptTail (PySem.Expr.Name _ _) (PySem.Expr.Name _ _) (Value.str _ _) (Value.int _ _)) _ _ _); (k_dflt (first | refine' item_txC (by assumption) (by assumption) ?_ | refine' item_txD (by assumption) (by assumption) ?_ | refine' item_tx (by first | assumption | omega) (by decide) (by (first | assumption | ((simp only [Int.toNat_natCast, Int.toNat_natCast_add_one]); assumption) | ((rename (_ : List _)[_]? = some _ => hx9); (simpa using hx9)))) ?_); intro _; (try dsimp only))) | walk1 | (dsimp only; first | ((with_reducible show KswEnd _ _ _ _ _ _ _ _ _ _ _ _); refine stopW ?_) | ((with_reducible show wpAny _ _ (execs (_ :: _) _) _ _ _); first | ((with_reducible show wpAny _ _ (execs (Stmt.If _ _ _ _ :: _) _) _ _ _); first | walk_at "execs cons If nil" | walk_at "execs cons If cons") | ((try dsimp only); (refine gen_up ?_); intro _ up9; (try dsimp only at up9); (refine wpAny_execs_cons ?_); (revert up9; intro _))) | ((with_reducible show wpAny _ _ (compareOp PySem.CmpOp.NotEq (Value.str _ _) (Value.str _ _)) _ _ _); (k_dflt (first | (refine' ne_tx true (by walk_at "mine_eq") ?_) | (refine' ne_tx false (by walk_at "mine_eq") ?_)))) | ((with_reducible show wpAny _ _ (subscriptTail (PySem.Expr.Name _ _) (PySem.Expr.Name _ _) (Value.str _ _) (Value.int _ _)) _ _ _); (k_dflt (first | refine' item_txC (by assumption) (by assumption) ?_ | refine' item_txD (by assumption) (by assumption) ?_ | refine' item_tx (by first | assumption | omega) (by decide) (by (first | assumption | ((simp only [Int.toNat_natCast, Int.toNat_natCast_add_one]); assumption) | ((rename (_ : List _)[_]? = some _ => hx9); (simpa using hx9)))) ?_); intro _; (try dsimp only))) | walk1) | (leave1; walk_say "STEP leave1"; try dsimp only) | fail "no step"))
                      rename News _ _ _ _ => N5
                      rename Fr _ _ _ _ => F5
                      refine ksw_end (j + 1, _) F5 N5 (fun _ h => h) trivial (by kst_all) (by (intro z9 h29 h39; (with_reducible (repeat (first | exact rfl | refine off_st h39 ?_ | refine off_st0 ?_ | refine off_nil ?_ | refine off_ite (by first | exact h29 _ me0 | exact h29 _ me1 | exact h29 _ me2 | exact h29 _ me3 | exact ne_st h39 me0 | exact ne_st h39 me1 | exact ne_st h39 me2) ?_ | refine off_kst (by first | exact h29 _ me0 | exact h29 _ me1 | exact h29 _ me2 | exact h29 _ me3 | exact ne_st h39 me0 | exact ne_st h39 me1 | exact ne_st h39 me2) ?_))); try exact rfl)) ⟨Nat.le_succ_of_le hp1, hA, fun k h1 h2 => ?_⟩ (om9 hA)
                      rcases Nat.lt_or_ge k j with h3 | h3
                      · exact hp3 k h1 h3
                      · have : k = j := Nat.le_antisymm (Nat.le_of_lt_succ h2) h3
                        subst this
                        rw [hxA]; intro e; exact hB (Option.some.inj e)
                  · have hA' : ¬ (j : Int) < x.length := om4 hA
                    k_steps
                    rename News _ _ _ _ => N5
                    rename Fr _ _ _ _ => F5
                    exact wend (j, tj) F5 N5 (fun _ h => h) (by kst_all) (by (intro z9 h29 h39; (with_reducible (repeat (first | exact rfl | refine off_st h39 ?_ | refine off_st0 ?_ | refine off_nil ?_ | refine off_ite (by first | exact h29 _ me0 | exact h29 _ me1 | exact h29 _ me2 | exact h29 _ me3 | exact ne_st h39 me0 | exact ne_st h39 me1 | exact ne_st h39 me2) ?_ | refine off_kst (by first | exact h29 _ me0 | exact h29 _ me1 | exact h29 _ me2 | exact h29 _ me3 | exact ne_st h39 me0 | exact ne_st h39 me1 | exact ne_st h39 me2) ?_))); try exact rfl)) ⟨⟨hp1, hp2, hp3⟩, .inl (om8 hp2 hA)⟩
                  --A>
                case rest3 =>
                  clear hp F4 N4
                  intro c u h tk uq hp F3 N3
                  obtain ⟨j, tj⟩ := c
                  dsimp only at hp F3 N3 ⊢
                  dsimp only at uq
                  obtain ⟨⟨hp1, hp2, hp3⟩, hp4⟩ := hp
                  by_cases hA : j = x.length
                  · --A<
                    have hA' : (j : Int) = x.length := om10 hA
                    have hsh : shutAt (x.drop (i + 1)) = none := shut_none fun k h1 h2 => hp3 k h1 (Nat.lt_of_lt_of_eq h2 hA.symm)
                    (repeat' (first | (k_unfold; (try dsimp only)) | (k_end; wrow_close) | ((with_reducible show wpAny _ _ (execs (_ :: _) _) _ _ _); first | ((with_reducible show wpAny _ _ (execs (Stmt.If _ _ _ _ :: _) _) _ _ _); first | walk_at "execs cons If nil" | walk_at "execs cons If cons") | ((try dsimp only); (refine gen_up ?_); intro _ up9; (try dsimp only at up9); (refine wpAny_execs_cons ?_); (revert up9; intro _))) | (((with_reducible show wpAny _ _ (call (Value.ref _) [_]) _ _ _); k_dflt (refine' bound_append_V (by k_asm) (by k_asm) (by walk_at "mine_mem") (by walk_at "mine_upd") ?_ (by first | exact om24 (b := 2000) (by assumption) (by decide) | exact om24 (b := 1000) (by assumption) (by decide) | walk_at "mine_sz")); intro _ _ N9; (try dsimp only); (try simp only [List.push_toArray] at N9)); (revert N9; intro _)) | ((with_reducible show (_ : Option Obj) = some (boundO _ _) ∧ _); (refine' and_bound (by k_asm) (by walk_at "mine_mem") ?_)) | ((with_reducible show wpAny _ _ (callWith _ (Value.ref _) _ _ _) _ _ _); k_dflt (refine' callWith_bound (id := "list.append") (by k_asm) (by walk_at "mine_mem") ?_)) | walk1 | (dsimp only; first | ((with_reducible show wpAny _ _ (execs (_ :: _) _) _ _ _); first | ((with_reducible show wpAny _ _ (execs (Stmt.If _ _ _ _ :: _) _) _ _ _); first | walk_at "execs cons If nil" | walk_at "execs cons If cons") | ((try dsimp only); (refine gen_up ?_); intro _ up9; (try dsimp only at up9); (refine wpAny_execs_cons ?_); (revert up9; intro _))) | (((with_reducible show wpAny _ _ (call (Value.ref _) [_]) _ _ _); k_dflt (refine' bound_append_V (by k_asm) (by k_asm) (by walk_at "mine_mem") (by walk_at "mine_upd") ?_ (by first | exact om24 (b := 2000) (by assumption) (by decide) | exact om24 (b := 1000) (by assumption) (by decide) | walk_at "mine_sz")); intro _ _ N9; (try dsimp only); (try simp only [List.push_toArray] at N9)); (revert N9; intro _)) | ((with_reducible show (_ : Option Obj) = some (boundO _ _) ∧ _); (refine' and_bound (by k_asm) (by walk_at "mine_mem") ?_)) | ((with_reducible show wpAny _ _ (callWith _ (Value.ref _) _ _ _) _ _ _); k_dflt (refine' callWith_bound (id := "list.append") (by k_asm) (by walk_at "mine_mem") ?_)) | walk1) | (leave1; walk_say "STEP leave1"; try dsimp only) | fail "no step"))
                    rename News _ _ _ _ => N5
                    rename Fr _ _ _ _ => F5
                    refine hqT _ _ ?_
                    (repeat' (first | (k_unfold; (try dsimp only)) | (k_end; wrow_close) | ((with_reducible show KswEnd _ _ _ _ _ _ _ _ _ _ _ _); refine stopW ?_) | walk1 | (dsimp only; first | ((with_reducible show KswEnd _ _ _ _ _ _ _ _ _ _ _ _); refine stopW ?_) | walk1) | (leave1; walk_say "STEP leave1"; try dsimp only) | fail "no step"))
                    refine ksw_end ⟨i + 1, _, us ++ [.str (Str.ofString "\\[") _], ps ++ [some [92, 91]], k + 1, ex, ts⟩ F5 N5 (fun _ h => h) trivial (by kst_all) (by (intro z9 h29 h39; (with_reducible (repeat (first | exact rfl | refine off_st h39 ?_ | refine off_st0 ?_ | refine off_nil ?_ | refine off_ite (by first | exact h29 _ me0 | exact h29 _ me1 | exact h29 _ me2 | exact h29 _ me3 | exact ne_st h39 me0 | exact ne_st h39 me1 | exact ne_st h39 me2) ?_ | refine off_kst (by first | exact h29 _ me0 | exact h29 _ me1 | exact h29 _ me2 | exact h29 _ me3 | exact ne_st h39 me0 | exact ne_st h39 me1 | exact ne_st h39 me2) ?_))); try exact rfl)) ⟨⟨hin, ?_, om42 hl2, ?_⟩, ht⟩ (om9 hin)
                    · dsimp only
                      rw [show Str.ofString "\\[" = ⟨[92, 91].toArray⟩ by decide +kernel]
                      exact hi.pa.snoc_str
                    · dsimp only
                      rw [← hi.eq, lastS_some, hx1, h91, tr_open _ hsh, List.append_assoc]; rfl
                    --A>
                  · have hA' : ¬ (j : Int) = x.length := om11 hA
                    have hA2 : ¬ (j : Int) ≥ x.length := om25 hA hp2
                    have hij : i + 1 ≤ j := Nat.le_trans (Nat.le_add_right _ _) hp1
                    have hs1 : (i : Int) + 1 ≤ j := (Int.ofNat_le (m := i + 1)).mpr hij
                    have hs2 : (j : Int) ≤ x.length := Int.ofNat_le.mpr hp2
                    have hj93 : x[j]? = some 93 := hp4.resolve_left hA
                    have hsh := shut_some hp1 hp3 hj93
                    obtain ⟨Y, hY⟩ : ∃ Y, (x.drop (i + 1)).take (j - (i + 1)) = Y := ⟨_, rfl⟩
                    obtain ⟨hYn, hY3⟩ := stuff_ne hsh
                    rw [hY] at hYn hY3
                    have hY45 : 45 ∉ Y := fun e => hh (List.mem_of_mem_drop (List.mem_of_mem_take (hY ▸ e)))
                    have hYl : Y.length ≤ 1000 := by rw [← hY, List.length_take, List.length_drop]; exact Nat.le_trans (Nat.min_le_right _ _) (Nat.le_trans (Nat.sub_le _ _) hz)
                    (repeat' (first | (k_unfold; (try dsimp only)) | (k_end; wrow_close) | ((with_reducible show wpAny _ _ (execs (_ :: _) _) _ _ _); first | ((with_reducible show wpAny _ _ (execs (Stmt.If _ _ _ _ :: _) _) _ _ _); first | walk_at "execs cons If nil" | walk_at "execs cons If cons") | ((try dsimp only); (refine gen_up ?_); intro _ up9; (try dsimp only at up9); (refine wpAny_execs_cons ?_); (revert up9; intro _))) | (((with_reducible show wpAny _ _ (call (Value.builtin "str.replace") _ _) _ _ _); ((refine wpAny_up ?_); k_dflt (refine' repl_tx (by first | exact Nat.succ_pos _ | omega) (by first | exact Nat.succ_pos _ | omega) (by omega) (by exact om23 (b := 1000) (by assumption) (by decide)) ?_); intro _ _ up9; (try dsimp only); (dsimp only at up9))); (revert up9; intro _)) | ((with_reducible show wpAny _ _ (compareOp PySem.CmpOp.NotIn (Value.str _ _) (Value.str _ _)) _ _ _); (k_dflt (refine' notin_dash (by assumption) ?_))) | (((with_reducible show wpAny _ _ (subscriptTail (PySem.Expr.Name _ _) (PySem.Expr.Slice _ _ _ _) (Value.str _ _) (Value.ref _)) _ _ _); (k_dflt (refine wpAny_up ?_); k_dflt (refine' slice_txY (s := ⟨_, _, _, _, _⟩) (by (rename (List.take _ _ = _) => hy9); exact hy9) (by assumption) (by exact om1 _) (by assumption) (by assumption) (by k_asm) (by k_asm) ?_); intro _ _ _ _ _ up9; (try dsimp only); (dsimp only at up9))); (revert up9; intro _)) | walk1 | (dsimp only; first | ((with_reducible show wpAny _ _ (execs (_ :: _) _) _ _ _); first | ((with_reducible show wpAny _ _ (execs (Stmt.If _ _ _ _ :: _) _) _ _ _); first | walk_at "execs cons If nil" | walk_at "execs cons If cons") | ((try dsimp only); (refine gen_up ?_); intro _ up9; (try dsimp only at up9); (refine wpAny_execs_cons ?_); (revert up9; intro _))) | (((with_reducible show wpAny _ _ (call (Value.builtin "str.replace") _ _) _ _ _); ((refine wpAny_up ?_); k_dflt (refine' repl_tx (by first | exact Nat.succ_pos _ | omega) (by first | exact Nat.succ_pos _ | omega) (by omega) (by exact om23 (b := 1000) (by assumption) (by decide)) ?_); intro _ _ up9; (try dsimp only); (dsimp only at up9))); (revert up9; intro _)) | ((with_reducible show wpAny _ _ (compareOp PySem.CmpOp.NotIn (Value.str _ _) (Value.str _ _)) _ _ _); (k_dflt (refine' notin_dash (by assumption) ?_))) | (((with_reducible show wpAny _ _ (subscriptTail (PySem.Expr.Name _ _) (PySem.Expr.Slice _ _ _ _) (Value.str _ _) (Value.ref _)) _ _ _); (k_dflt (refine wpAny_up ?_); k_dflt (refine' slice_txY (s := ⟨_, _, _, _, _⟩) (by (rename (List.take _ _ = _) => hy9); exact hy9) (by assumption) (by exact om1 _) (by assumption) (by assumption) (by k_asm) (by k_asm) ?_); intro _ _ _ _ _ up9; (try dsimp only); (dsimp only at up9))); (revert up9; intro _)) | walk1) | (leave1; walk_say "STEP leave1"; try dsimp only) | fail "no step"))
                    rename Fr _ _ _ _ => F9
                    refine meth_sub ((patAt X1).keeps F9.keep) ?_
                    clear FG
                    k_steps
                    rename Fr _ _ _ _ => F9
                    rename News _ _ _ _ => N9
                    have h57 : ∀ p ∈ ex, p.1 ≠ 57 := fun p hp e => absurd (e ▸ ht.gt _ (updf_mem U) p hp) (Nat.lt_irrefl _)
                    refine eval_lam rfl ?_
                    refine lam_made2 (P := 57) (c := 61) (ps := ts) (pos := lamPs) (qual := qLam) (g := fun o => (q, boundO "list.append" l) :: (l, listOf us.toArray k) :: (ex ++ g o)) F9 N9 T1 (codeHd61 X1) rfl
                      (.tail (fun e => hnq _ (updf_mem U) e.symm) (.tail (fun e => hnl _ (updf_mem U) e.symm) (updf_app (updf_re U) h57))) (g2 := fun o => ex ++ g o) (fun _ _ h => .tail _ (.tail _ h)) ht.ts rfl ?_
                    intro f c' oc vs tq ctv ex' ts' hL tkL FL NL mc d1 d2 tsL gf gx
                    replace NL := news_norm NL
                    clear F9 N9
                    k_steps
                    rename Fr _ _ _ _ => F9
                    rename News _ _ _ _ => N9
                    have hdl : (dblB Y).length ≤ 10000 := Nat.le_trans (dblB_len Y) (Nat.le_trans (Nat.mul_le_mul_left 2 hYl) (by decide))
                    obtain ⟨Z, hZ⟩ : ∃ Z, escAmp (dblB Y) = Z := ⟨_, rfl⟩
                    refine sub_callZ hZ hdl (patAt X1) F9 N9 (.head _) rfl (lam_ok hdl B1 X1 T1 rfl rfl rfl (.head _) (mem_norm2 mc) d1 d2 (Nat.lt_of_le_of_lt (Nat.le_add_right (dp + 1) 3) hd)) ?_
                    clear F9 N9
                    intro h9 tk9 uZ F9 N9
                    obtain ⟨hZ0, hZ1⟩ := escB_ne hYn hY3
                    have hZl := escB_le Y
                    have hZb : brk Y = if Z[0]? = some 33 then [91, 94] ++ Z.drop 1 ++ [93] else if Z[0]? = some 94 ∨ Z[0]? = some 91 then [91, 92] ++ Z ++ [93] else [91] ++ Z ++ [93] := by rw [← hZ]; rfl
                    rw [show escB Y = Z from hZ] at hZ0 hZ1 hZl
                    clear hZ
                    obtain ⟨z, Zr, rfl⟩ : ∃ z Zr, Z = z :: Zr := by
                      cases Z with
                      | nil => exact absurd rfl hZ0
                      | cons z Zr => exact ⟨z, Zr, rfl⟩
                    have hZi : (z :: Zr)[0]? = some z := rfl
                    have hZk : (z :: Zr).length ≤ 100000 := Nat.le_trans hZl (Nat.le_trans (Nat.mul_le_mul_left 4 hYl) (by decide))
                    (repeat' (first | (k_unfold; (try dsimp only)) | (k_end; wrow_close) | ((fail_if_success (rename Pass => np9)); (with_reducible show wpAny _ _ (exec (Stmt.If (PySem.Expr.Compare (PySem.Expr.Subscript _ _ _) _ _ _) _ _ _) _) _ _ _); refine stopW ?_) | ((with_reducible show wpAny _ _ (truthy (Value.str (PySem.Str.mk (List.toArray (_ :: _))) _)) _ _ _); k_dflt (refine' truthy_tx (by first | assumption | omega) ?_); (try dsimp only)) | ((with_reducible show wpAny _ _ (execs (_ :: _) _) _ _ _); first | ((with_reducible show wpAny _ _ (execs (Stmt.If _ _ _ _ :: _) _) _ _ _); first | walk_at "execs cons If nil" | walk_at "execs cons If cons") | ((try dsimp only); (refine gen_up ?_); intro _ up9; (try dsimp only at up9); (refine wpAny_execs_cons ?_); (revert up9; intro _))) | walk1 | (dsimp only; first | ((fail_if_success (rename Pass => np9)); (with_reducible show wpAny _ _ (exec (Stmt.If (PySem.Expr.Compare (PySem.Expr.Subscript _ _ _) _ _ _) _ _ _) _) _ _ _); refine stopW ?_) | ((with_reducible show wpAny _ _ (truthy (Value.str (PySem.Str.mk (List.toArray (_ :: _))) _)) _ _ _); k_dflt (refine' truthy_tx (by first | assumption | omega) ?_); (try dsimp only)) | ((with_reducible show wpAny _ _ (execs (_ :: _) _) _ _ _); first | ((with_reducible show wpAny _ _ (execs (Stmt.If _ _ _ _ :: _) _) _ _ _); first | walk_at "execs cons If nil" | walk_at "execs cons If cons") | ((try dsimp only); (refine gen_up ?_); intro _ up9; (try dsimp only at up9); (refine wpAny_execs_cons ?_); (revert up9; intro _))) | walk1) | (leave1; walk_say "STEP leave1"; try dsimp only) | fail "no step"))
                    unfold StopW
                    rename Fr _ _ _ _ => F9
                    rename News _ _ _ _ => N9
                    refine cut_toT (σ := Str × Tok) (fun _ => (f, kla_obj (Str.ofString "<lambda>") qLam lamAr lamBd lamSc [] ((mg (Str.ofString "__name__")).getD .none) c' ctv) :: (q, boundO "list.append" l) :: (l, listOf us.toArray k) :: ((ex' ++ ex) ++ g (tabObj ts'))) (fun c => [(Str.ofString "stuff", .str c.1 c.2)]) [] (fun c => c.1 = ⟨(inC z Zr).toArray⟩) F9 ?if3 ?rest4
                    case if3 =>
                      have hpass : Pass := .on
                      by_cases h33 : z = 33
                      · (repeat' (first | (k_unfold; (try dsimp only)) | (k_end; wrow_close) | ((with_reducible show wpAny _ _ (compareOp PySem.CmpOp.Eq (Value.str _ _) (Value.str _ _)) _ _ _); (k_dflt (first | (refine' eq_tx true (by walk_at "mine_eq") ?_) | (refine' eq_tx false (by walk_at "mine_eq") ?_)))) | ((with_reducible show wpAny _ _ (execs (_ :: _) _) _ _ _); first | ((with_reducible show wpAny _ _ (execs (Stmt.If _ _ _ _ :: _) _) _ _ _); first | walk_at "execs cons If nil" | walk_at "execs cons If cons") | ((try dsimp only); (refine gen_up ?_); intro _ up9; (try dsimp only at up9); (refine wpAny_execs_cons ?_); (revert up9; intro _))) | ((with_reducible show wpAny _ _ (subscriptTail (PySem.Expr.Name _ _) (PySem.Expr.Constant _ _ _) (Value.str _ _) (Value.int _ _)) _ _ _); (k_dflt (first | refine' item_txC (by assumption) (by assumption) ?_ | refine' item_txD (by assumption) (by assumption) ?_ | refine' item_tx (by first | assumption | omega) (by decide) (by (first | assumption | ((simp only [Int.toNat_natCast, Int.toNat_natCast_add_one]); assumption) | ((rename (_ : List _)[_]? = some _ => hx9); (simpa using hx9)))) ?_); intro _; (try dsimp only))) | walk1 | (dsimp only; first | ((with_reducible show wpAny _ _ (compareOp PySem.CmpOp.Eq (Value.str _ _) (Value.str _ _)) _ _ _); (k_dflt (first | (refine' eq_tx true (by walk_at "mine_eq") ?_) | (refine' eq_tx false (by walk_at "mine_eq") ?_)))) | ((with_reducible show wpAny _ _ (execs (_ :: _) _) _ _ _); first | ((with_reducible show wpAny _ _ (execs (Stmt.If _ _ _ _ :: _) _) _ _ _); first | walk_at "execs cons If nil" | walk_at "execs cons If cons") | ((try dsimp only); (refine gen_up ?_); intro _ up9; (try dsimp only at up9); (refine wpAny_execs_cons ?_); (revert up9; intro _))) | ((with_reducible show wpAny _ _ (subscriptTail (PySem.Expr.Name _ _) (PySem.Expr.Constant _ _ _) (Value.str _ _) (Value.int _ _)) _ _ _); (k_dflt (first | refine' item_txC (by assumption) (by assumption) ?_ | refine' item_txD (by assumption) (by assumption) ?_ | refine' item_tx (by first | assumption | omega) (by decide) (by (first | assumption | ((simp only [Int.toNat_natCast, Int.toNat_natCast_add_one]); assumption) | ((rename (_ : List _)[_]? = some _ => hx9); (simpa using hx9)))) ?_); intro _; (try dsimp only))) | walk1) | (leave1; walk_say "STEP leave1"; try dsimp only) | fail "no step"))
                        rename Fr _ _ _ _ => F4
                        rename News _ _ _ _ => N4
                        exact wend (_, _) F4 N4 (fun _ h => h) (by kst_all) (by (intro z9 h29 h39; (with_reducible (repeat (first | exact rfl | refine off_st h39 ?_ | refine off_st0 ?_ | refine off_nil ?_ | refine off_ite (by first | exact h29 _ me0 | exact h29 _ me1 | exact h29 _ me2 | exact h29 _ me3 | exact ne_st h39 me0 | exact ne_st h39 me1 | exact ne_st h39 me2) ?_ | refine off_kst (by first | exact h29 _ me0 | exact h29 _ me1 | exact h29 _ me2 | exact h29 _ me3 | exact ne_st h39 me0 | exact ne_st h39 me1 | exact ne_st h39 me2) ?_))); try exact rfl)) (by dsimp only; rw [slice_one]; exact inC_1 h33)
                      · (repeat' (first | (k_unfold; (try dsimp only)) | (k_end; wrow_close) | ((with_reducible show wpAny _ _ (compareOp PySem.CmpOp.Eq (Value.str _ _) (Value.str _ _)) _ _ _); (k_dflt (first | (refine' eq_tx true (by walk_at "mine_eq") ?_) | (refine' eq_tx false (by walk_at "mine_eq") ?_)))) | ((with_reducible show wpAny _ _ (execs (_ :: _) _) _ _ _); first | ((with_reducible show wpAny _ _ (execs (Stmt.If _ _ _ _ :: _) _) _ _ _); first | walk_at "execs cons If nil" | walk_at "execs cons If cons") | ((try dsimp only); (refine gen_up ?_); intro _ up9; (try dsimp only at up9); (refine wpAny_execs_cons ?_); (revert up9; intro _))) | ((with_reducible show wpAny _ _ (subscriptTail (PySem.Expr.Name _ _) (PySem.Expr.Constant _ _ _) (Value.str _ _) (Value.int _ _)) _ _ _); (k_dflt (first | refine' item_txC (by assumption) (by assumption) ?_ | refine' item_txD (by assumption) (by assumption) ?_ | refine' item_tx (by first | assumption | omega) (by decide) (by (first | assumption | ((simp only [Int.toNat_natCast, Int.toNat_natCast_add_one]); assumption) | ((rename (_ : List _)[_]? = some _ => hx9); (simpa using hx9)))) ?_); intro _; (try dsimp only))) | walk1 | (dsimp only; first | ((with_reducible show wpAny _ _ (compareOp PySem.CmpOp.Eq (Value.str _ _) (Value.str _ _)) _ _ _); (k_dflt (first | (refine' eq_tx true (by walk_at "mine_eq") ?_) | (refine' eq_tx false (by walk_at "mine_eq") ?_)))) | ((with_reducible show wpAny _ _ (execs (_ :: _) _) _ _ _); first | ((with_reducible show wpAny _ _ (execs (Stmt.If _ _ _ _ :: _) _) _ _ _); first | walk_at "execs cons If nil" | walk_at "execs cons If cons") | ((try dsimp only); (refine gen_up ?_); intro _ up9; (try dsimp only at up9); (refine wpAny_execs_cons ?_); (revert up9; intro _))) | ((with_reducible show wpAny _ _ (subscriptTail (PySem.Expr.Name _ _) (PySem.Expr.Constant _ _ _) (Value.str _ _) (Value.int _ _)) _ _ _); (k_dflt (first | refine' item_txC (by assumption) (by assumption) ?_ | refine' item_txD (by assumption) (by assumption) ?_ | refine' item_tx (by first | assumption | omega) (by decide) (by (first | assumption | ((simp only [Int.toNat_natCast, Int.toNat_natCast_add_one]); assumption) | ((rename (_ : List _)[_]? = some _ => hx9); (simpa using hx9)))) ?_); intro _; (try dsimp only))) | walk1) | (leave1; walk_say "STEP leave1"; try dsimp only) | fail "no step"))
                        · rename Fr _ _ _ _ => F4
                          rename News _ _ _ _ => N4
                          rename List.any _ _ = _ => ha
                          exact wend (_, _) F4 N4 (fun _ h => .tail _ h) (by kst_all) (by (intro z9 h29 h39; (with_reducible (repeat (first | exact rfl | refine off_st h39 ?_ | refine off_st0 ?_ | refine off_nil ?_ | refine off_ite (by first | exact h29 _ me0 | exact h29 _ me1 | exact h29 _ me2 | exact h29 _ me3 | exact ne_st h39 me0 | exact ne_st h39 me1 | exact ne_st h39 me2) ?_ | refine off_kst (by first | exact h29 _ me0 | exact h29 _ me1 | exact h29 _ me2 | exact h29 _ me3 | exact ne_st h39 me0 | exact ne_st h39 me1 | exact ne_st h39 me2) ?_))); try exact rfl)) (by dsimp only; exact inC_2 h33 ha)
                        · rename Fr _ _ _ _ => F4
                          rename News _ _ _ _ => N4
                          rename List.any _ _ = _ => ha
                          exact wend (_, _) F4 N4 (fun _ h => .tail _ h) (by kst_all) (by (intro z9 h29 h39; (with_reducible (repeat (first | exact rfl | refine off_st h39 ?_ | refine off_st0 ?_ | refine off_nil ?_ | refine off_ite (by first | exact h29 _ me0 | exact h29 _ me1 | exact h29 _ me2 | exact h29 _ me3 | exact ne_st h39 me0 | exact ne_st h39 me1 | exact ne_st h39 me2) ?_ | refine off_kst (by first | exact h29 _ me0 | exact h29 _ me1 | exact h29 _ me2 | exact h29 _ me3 | exact ne_st h39 me0 | exact ne_st h39 me1 | exact ne_st h39 me2) ?_))); try exact rfl)) (by dsimp only; exact inC_3 h33 ha)
                    case rest4 =>
                      intro c u h tk uq hp F3 N3
                      obtain ⟨S9, t9⟩ := c
                      dsimp only at hp F3 N3 ⊢
                      have hIC2 : S9.length ≤ 5000 := by
                        have := brk_len2 Y (brk_inC hZb) hYl
                        rw [hp]; exact Nat.le_trans this (by decide)
                      have lf : l < f := gf _ (.tail _ (.head _))
                      have hfl : f ≠ l := Nat.ne_of_gt lf
                      have hxl : ∀ p ∈ ex', p.1 ≠ l ∧ p.1 ≠ q := fun p hp => ⟨Nat.ne_of_gt (gx _ (.tail _ (.head _)) p hp), Nat.ne_of_gt (gx _ (.head _) p hp)⟩
                      have hnn2 : ∀ p ∈ ex' ++ ex ++ g (tabObj ts'), p.1 ≠ l := by
                        intro p hp
                        rcases List.mem_append.mp hp with hp | hp
                        · rcases List.mem_append.mp hp with hp | hp
                          · exact (hxl p hp).1
                          · exact (ht.nl p hp).1
                        · obtain ⟨p', h1, h2⟩ := updf_addr U hp
                          rw [← h2]; exact hnl p' h1
                      (repeat' (first | (k_unfold; (try dsimp only)) | (k_end; wrow_close) | ((with_reducible show wpAny _ _ (execs (_ :: _) _) _ _ _); first | ((with_reducible show wpAny _ _ (execs (Stmt.If _ _ _ _ :: _) _) _ _ _); first | walk_at "execs cons If nil" | walk_at "execs cons If cons") | ((try dsimp only); (refine gen_up ?_); intro _ up9; (try dsimp only at up9); (refine wpAny_execs_cons ?_); (revert up9; intro _))) | (((with_reducible show wpAny _ _ (call (Value.ref _) [_]) _ _ _); k_dflt (refine' bound_append_V (by k_asm) (by k_asm) (by walk_at "mine_mem") (by walk_at "mine_upd") ?_ (by first | exact om24 (b := 2000) (by assumption) (by decide) | exact om24 (b := 1000) (by assumption) (by decide) | walk_at "mine_sz")); intro _ _ N9; (try dsimp only); (try simp only [List.push_toArray] at N9)); (revert N9; intro _)) | ((with_reducible show (_ : Option Obj) = some (boundO _ _) ∧ _); (refine' and_bound (by k_asm) (by walk_at "mine_mem") ?_)) | ((with_reducible show wpAny _ _ (callWith _ (Value.ref _) _ _ _) _ _ _); k_dflt (refine' callWith_bound (id := "list.append") (by k_asm) (by walk_at "mine_mem") ?_)) | walk1 | (dsimp only; first | ((with_reducible show wpAny _ _ (execs (_ :: _) _) _ _ _); first | ((with_reducible show wpAny _ _ (execs (Stmt.If _ _ _ _ :: _) _) _ _ _); first | walk_at "execs cons If nil" | walk_at "execs cons If cons") | ((try dsimp only); (refine gen_up ?_); intro _ up9; (try dsimp only at up9); (refine wpAny_execs_cons ?_); (revert up9; intro _))) | (((with_reducible show wpAny _ _ (call (Value.ref _) [_]) _ _ _); k_dflt (refine' bound_append_V (by k_asm) (by k_asm) (by walk_at "mine_mem") (by walk_at "mine_upd") ?_ (by first | exact om24 (b := 2000) (by assumption) (by decide) | exact om24 (b := 1000) (by assumption) (by decide) | walk_at "mine_sz")); intro _ _ N9; (try dsimp only); (try simp only [List.push_toArray] at N9)); (revert N9; intro _)) | ((with_reducible show (_ : Option Obj) = some (boundO _ _) ∧ _); (refine' and_bound (by k_asm) (by walk_at "mine_mem") ?_)) | ((with_reducible show wpAny _ _ (callWith _ (Value.ref _) _ _ _) _ _ _); k_dflt (refine' callWith_bound (id := "list.append") (by k_asm) (by walk_at "mine_mem") ?_)) | walk1) | (leave1; walk_say "STEP leave1"; try dsimp only) | fail "no step"))
                      rename Fr _ _ _ _ => F4
                      rename News _ _ _ _ => N4
                      refine hqT _ _ ?_
                      (repeat' (first | (k_unfold; (try dsimp only)) | (k_end; wrow_close) | ((with_reducible show KswEnd _ _ _ _ _ _ _ _ _ _ _ _); refine stopW ?_) | walk1 | (dsimp only; first | ((with_reducible show KswEnd _ _ _ _ _ _ _ _ _ _ _ _); refine stopW ?_) | walk1) | (leave1; walk_say "STEP leave1"; try dsimp only) | fail "no step"))
                      refine ksw_end ⟨j + 1, _, us ++ [.str _ _], ps ++ [some (brk Y)], k + 1, ex' ++ ex, ts'⟩ F4 N4 (fun _ h => .tail _ h) trivial (by kst_all) (by (intro z9 h29 h39; (with_reducible (repeat (first | exact rfl | refine off_st h39 ?_ | refine off_st0 ?_ | refine off_nil ?_ | refine off_ite (by first | exact h29 _ me0 | exact h29 _ me1 | exact h29 _ me2 | exact h29 _ me3 | exact ne_st h39 me0 | exact ne_st h39 me1 | exact ne_st h39 me2) ?_ | refine off_kst (by first | exact h29 _ me0 | exact h29 _ me1 | exact h29 _ me2 | exact h29 _ me3 | exact ne_st h39 me0 | exact ne_st h39 me1 | exact ne_st h39 me2) ?_))); try exact rfl)) ⟨⟨Nat.succ_le_of_lt (List.getElem?_eq_some_iff.mp hj93).1, ?_, om42 (Nat.le_trans hl2 (Nat.le_of_lt hij)), ?_⟩, ?_⟩ (Nat.sub_lt_sub_left hin (Nat.le_succ_of_le hij))
                      · dsimp only
                        rw [brk_str hp (brk_inC hZb)]
                        exact hi.pa.snoc_str
                      · dsimp only
                        rw [← hi.eq, lastS_some, hx1, h91, tr_shut _ hsh, List.append_assoc, List.drop_drop, hY, show i + 1 + (j - (i + 1) + 1) = j + 1 from congrArg Nat.succ (Nat.add_sub_cancel' hij)]; rfl
                      · exact ⟨by rw [List.append_assoc]; exact tsL, fun a ha p hp => (List.mem_append.mp hp).elim (fun h => Nat.lt_trans (l1 a ha) (gx _ (.tail _ (.head _)) p h)) (ht.gt a ha p), fun p hp => (List.mem_append.mp hp).elim (hxl p) (ht.nl p)⟩
          · --A<
            (repeat' (first | (k_unfold; (try dsimp only)) | (k_end; wrow_close) | ((with_reducible show wpAny _ _ (compareOp PySem.CmpOp.Eq (Value.str _ _) (Value.str _ _)) _ _ _); (k_dflt (first | (refine' eq_tx true (by walk_at "mine_eq") ?_) | (refine' eq_tx false (by walk_at "mine_eq") ?_)))) | ((with_reducible show wpAny _ _ (execs (_ :: _) _) _ _ _); first | ((with_reducible show wpAny _ _ (execs (Stmt.If _ _ _ _ :: _) _) _ _ _); first | walk_at "execs cons If nil" | walk_at "execs cons If cons") | ((try dsimp only); (refine gen_up ?_); intro _ up9; (try dsimp only at up9); (refine wpAny_execs_cons ?_); (revert up9; intro _))) | ((with_reducible show wpAny _ _ (call (Value.ref 55) [Value.str _ _]) _ _ _); k_dflt (refine' con_useS (c_esc _ _ _) (by k_asm) (by k_asm) (by k_asm) (by k_asm) (by k_asm) (by exact rfl) (by ktr_room) (by ktr_units) ?_); intro _ _ _ _ _; (try dsimp only)) | (((with_reducible show wpAny _ _ (call (Value.ref _) [_]) _ _ _); k_dflt (refine' bound_append_V (by k_asm) (by k_asm) (by walk_at "mine_mem") (by walk_at "mine_upd") ?_ (by first | exact om24 (b := 2000) (by assumption) (by decide) | exact om24 (b := 1000) (by assumption) (by decide) | walk_at "mine_sz")); intro _ _ N9; (try dsimp only); (try simp only [List.push_toArray] at N9)); (revert N9; intro _)) | ((with_reducible show (_ : Option Obj) = some (boundO _ _) ∧ _); (refine' and_bound (by k_asm) (by walk_at "mine_mem") ?_)) | ((with_reducible show wpAny _ _ (callWith _ (Value.ref _) _ _ _) _ _ _); k_dflt (refine' callWith_bound (id := "list.append") (by k_asm) (by walk_at "mine_mem") ?_)) | walk1 | (dsimp only; first | ((with_reducible show wpAny _ _ (compareOp PySem.CmpOp.Eq (Value.str _ _) (Value.str _ _)) _ _ _); (k_dflt (first | (refine' eq_tx true (by walk_at "mine_eq") ?_) | (refine' eq_tx false (by walk_at "mine_eq") ?_)))) | ((with_reducible show wpAny _ _ (execs (_ :: _) _) _ _ _); first | ((with_reducible show wpAny _ _ (execs (Stmt.If _ _ _ _ :: _) _) _ _ _); first | walk_at "execs cons If nil" | walk_at "execs cons If cons") | ((try dsimp only); (refine gen_up ?_); intro _ up9; (try dsimp only at up9); (refine wpAny_execs_cons ?_); (revert up9; intro _))) | ((with_reducible show wpAny _ _ (call (Value.ref 55) [Value.str _ _]) _ _ _); k_dflt (refine' con_useS (c_esc _ _ _) (by k_asm) (by k_asm) (by k_asm) (by k_asm) (by k_asm) (by exact rfl) (by ktr_room) (by ktr_units) ?_); intro _ _ _ _ _; (try dsimp only)) | (((with_reducible show wpAny _ _ (call (Value.ref _) [_]) _ _ _); k_dflt (refine' bound_append_V (by k_asm) (by k_asm) (by walk_at "mine_mem") (by walk_at "mine_upd") ?_ (by first | exact om24 (b := 2000) (by assumption) (by decide) | exact om24 (b := 1000) (by assumption) (by decide) | walk_at "mine_sz")); intro _ _ N9; (try dsimp only); (try simp only [List.push_toArray] at N9)); (revert N9; intro _)) | ((with_reducible show (_ : Option Obj) = some (boundO _ _) ∧ _); (refine' and_bound (by k_asm) (by walk_at "mine_mem") ?_)) | ((with_reducible show wpAny _ _ (callWith _ (Value.ref _) _ _ _) _ _ _); k_dflt (refine' callWith_bound (id := "list.append") (by k_asm) (by walk_at "mine_mem") ?_)) | walk1) | (leave1; walk_say "STEP leave1"; try dsimp only) | fail "no step"))
            rename_i F3 N3
            refine hqT _ _ ?_
            (repeat' (first | (k_unfold; (try dsimp only)) | (k_end; wrow_close) | ((with_reducible show KswEnd _ _ _ _ _ _ _ _ _ _ _ _); refine stopW ?_) | walk1 | (dsimp only; first | ((with_reducible show KswEnd _ _ _ _ _ _ _ _ _ _ _ _); refine stopW ?_) | walk1) | (leave1; walk_say "STEP leave1"; try dsimp only) | fail "no step"))
            refine ksw_end ⟨i + 1, _, us ++ [.str ⟨(esc x[i]).toArray⟩ _], ps ++ [some (esc x[i])], k + 1, ex, ts⟩ F3 N3 (fun _ h => h) trivial (by kst_all) (by (intro z9 h29 h39; (with_reducible (repeat (first | exact rfl | refine off_st h39 ?_ | refine off_st0 ?_ | refine off_nil ?_ | refine off_ite (by first | exact h29 _ me0 | exact h29 _ me1 | exact h29 _ me2 | exact h29 _ me3 | exact ne_st h39 me0 | exact ne_st h39 me1 | exact ne_st h39 me2) ?_ | refine off_kst (by first | exact h29 _ me0 | exact h29 _ me1 | exact h29 _ me2 | exact h29 _ me3 | exact ne_st h39 me0 | exact ne_st h39 me1 | exact ne_st h39 me2) ?_))); try exact rfl)) ⟨⟨hin, hi.pa.snoc_str, om42 hl2, ?_⟩, ht⟩ (om9 hin)
            dsimp only
            rw [← hi.eq, lastS_some, hx1, tr_else _ _ h42 h63 h91, List.append_assoc]; rfl
            --A>
    · have hi' : ¬ (i : Int) < x.length := om4 hin
      --A<
      k_steps
      exact wend ⟨i, ti, us, ps, k, ex, ts⟩ F2 N2 (fun _ h => h) (by kst_all) (by (intro z9 h29 h39; (with_reducible (repeat (first | exact rfl | refine off_st h39 ?_ | refine off_st0 ?_ | refine off_nil ?_ | refine off_ite (by first | exact h29 _ me0 | exact h29 _ me1 | exact h29 _ me2 | exact h29 _ me3 | exact ne_st h39 me0 | exact ne_st h39 me1 | exact ne_st h39 me2) ?_ | refine off_kst (by first | exact h29 _ me0 | exact h29 _ me1 | exact h29 _ me2 | exact h29 _ me3 | exact ne_st h39 me0 | exact ne_st h39 me1 | exact ne_st h39 me2) ?_))); try exact rfl)) ⟨hi, ht, om8 hle hin⟩
      --A>
end
theorem flush_tr : True := by first | walk1 | trivial
section

theorem mro_obj : mroOf (.type "object") = pure [.type "object"] := by rw [mroOf_type]; kernel_rfl
theorem lookup_obj_new : typeLookup (.type "object") "__new__" = pure (some (.builtin "object.__new__")) := by rw [typeLookup_type, builtinLookup_eq_fast]; kernel_rfl
theorem made_obj : Bind.madeBy (.type "object") = pure (some "object.__new__") := madeBy_type mro_obj lookup_obj_new (by decide +kernel)
theorem called_obj : TypeCalled "object" "object.__new__" "object.__init__" :=
  ⟨by decide +kernel, by decide +kernel, ⟨_, _, mro_obj⟩, made_obj, by decide +kernel, by rw [isSubtype_type]; kernel_rfl, PySem.F.slot_object_init⟩
theorem typeCall_obj : checkTypeCall "object" ⟨[], []⟩ = pure () := by kernel_rfl
theorem newCall_obj : checkBuiltinCall "object.__new__" ⟨[.type "object"], []⟩ = pure () := by kernel_rfl
theorem isType_obj : isType (.type "object") = pure true := by kernel_rfl
theorem madeHere_obj : Bind.madeHere "object.__new__" (.type "object") = pure () := by
  unfold Bind.madeHere
  have e : Bind.staticBase (.type "object") = pure (.type "object") := by kernel_rfl
  rw [e]
  simp only [pure_bind, made_obj]
  have e2 : ((some "object.__new__").map Manifest.canonical != some (Manifest.canonical "object.__new__")) = false := by simp
  rw [e2]
  rfl
noncomputable abbrev objO : Obj := { cls := .type "object", data := .plain }
theorem obj_new_meets : PySem.Meets (Builtin.«object.__new__» ⟨[.type "object"], []⟩) (fun _ R s => R (.ok (.ret (.ref s.heap.objs.size))) { s with heap := s.heap.push objO }) := by
  refine Meets.of_wp fun prog w A R s hs => ?_
  unfold Builtin.«object.__new__»
  dsimp only
  refine wpAny_bind (wpAny_of_eq isType_obj ?_)
  rw [if_neg (by decide)]
  rw [if_neg (by decide +kernel)]
  refine wpAny_bind (wpAny_of_eq madeHere_obj ?_)
  rw [if_neg (by decide)]
  rw [if_neg (by decide +kernel)]
  refine wpAny_bind (wpAny_pure ?_)
  unfold newObj newObjAsIs
  dsimp only
  refine wpAny_bind (wpAny_bind (wpAny_alloc ?_))
  refine wpAny_pure ?_
  rw [if_neg (by decide +kernel)]
  exact wpAny_pure ⟨_, rfl, hs⟩
section
variable {prog : Program} {w : World} {A : Around} {E : Value → Shared → Prop} {s : Shared} {h₀ : Heap} {L : Addr} {m : Str → Option Value} {news : List (Addr × Obj)}
theorem call_object {Q : Value → Shared → Prop} (F : Fr h₀ L s.heap m) (N : News h₀ L s.heap news)
    (h : ∀ a h', Fr h₀ L h' m → News h₀ L h' ((a, objO) :: news) → (∀ p ∈ news, p.1 < a) → Q (.ref a) { s with heap := h' }) : wpAny (model prog w) A (call (.type "object") []) Q E s := by
  refine callType_meets (Q₁ := fun v s' => ∃ a h', v = .ref a ∧ s' = { s with heap := h' } ∧ h'.get? a = some objO ∧ Fr h₀ L h' m ∧ News h₀ L h' ((a, objO) :: news) ∧ ∀ p ∈ news, p.1 < a) called_obj typeCall_obj newCall_obj PySem.F.entry_object_new PySem.F.entry_object_init obj_new_meets ?_ ?_
  · exact ⟨_, _, rfl, rfl, Heap.get?_push_size _ rfl, F.push _, News.push F N _, fun p hp => Heap.lt_size (N p hp).1⟩
  · rintro obj s₁ ⟨a, h', rfl, rfl, hg, F', N', hlt⟩
    refine ⟨⟨_, hg, rfl⟩, PySem.F.args_object_init_1 _, (fun _ R s => R (.ok (.ret .none)) s), ?_, ?_⟩
    · refine Meets.of_wp fun prog w A R s hs => ?_
      exact wpAny_pure ⟨_, rfl, hs⟩
    · exact ⟨rfl, h a h' F' N' hlt⟩
end
end
section

theorem noAdj_cons {p : Pt} {l : List Pt} (h : NoAdj l) (hp : p = none → l[0]? ≠ some none) : NoAdj (p :: l) := by
  intro i hi
  cases i with
  | zero =>
    have : p = none := by simpa using hi
    simpa using hp this
  | succ i => simpa using h i (by simpa using hi)
theorem tot_cons (p : Pt) (l : List Pt) : tot (p :: l) = plen p + tot l := by unfold tot; rw [List.map_cons, List.sum_cons]
structure TrF (b : Bool) (x : List Nat) : Prop where
  len : (transL b x).length ≤ x.length
  tot : tot (transL b x) ≤ 4 * x.length
  adj : NoAdj (transL b x)
  fst : b = true → (transL b x)[0]? ≠ some none
theorem TrF.text {b : Bool} {x r : List Nat} {y : List Nat} {k : Nat} (e : transL b x = some y :: transL false r) (hr : TrF false r) (hl : r.length + k + 1 ≤ x.length) (hy : y.length ≤ 4 * k + 4) : TrF b x := by
  refine ⟨?_, ?_, ?_, ?_⟩
  · rw [e, List.length_cons]; have := hr.len; omega
  · rw [e, tot_cons]; have := hr.tot; show y.length + _ ≤ _; omega
  · rw [e]; exact noAdj_cons hr.adj (fun h => nomatch h)
  · intro _; rw [e]; simp
theorem trF : ∀ (n : Nat) (b : Bool) (x : List Nat), x.length ≤ n → TrF b x
  | _, b, [], _ => ⟨by rw [tr_nil]; simp, by rw [tr_nil]; simp [tot], by rw [tr_nil]; intro i h; simp at h, by intro _; rw [tr_nil]; simp⟩
  | 0, _, _ :: _, h => absurd h (by simp)
  | n + 1, b, c :: r, h => by
    have hr : r.length ≤ n := by simpa using h
    by_cases h1 : c = 42
    · subst h1
      have g := trF n true r hr
      cases b with
      | true =>
        have e : transL true (42 :: r) = transL true r := by rw [tr_star]; rfl
        exact ⟨by rw [e]; have := g.len; simp; omega, by rw [e]; have := g.tot; simp; omega, by rw [e]; exact g.adj, fun _ => by rw [e]; exact g.fst rfl⟩
      | false =>
        have e : transL false (42 :: r) = none :: transL true r := by rw [tr_star]; rfl
        exact ⟨by rw [e]; have := g.len; simp; omega, by rw [e, tot_cons]; have := g.tot; show 0 + _ ≤ _; simp; omega, by rw [e]; exact noAdj_cons g.adj fun _ => g.fst rfl, fun h => nomatch h⟩
    · by_cases h2 : c = 63
      · subst h2
        exact TrF.text (k := 0) (tr_any b r) (trF n false r hr) (by simp) (by simp)
      · by_cases h3 : c = 91
        · subst h3
          cases hs : shutAt r with
          | none => exact TrF.text (k := 0) (tr_open b hs) (trF n false r hr) (by simp) (by simp)
          | some j =>
            have hj := shutAt_lt hs
            refine TrF.text (k := j + 1) (tr_shut b hs) (trF n false _ (by rw [List.length_drop]; omega)) (by rw [List.length_drop, List.length_cons]; omega) ?_
            have := brk_len (r.take j)
            rw [List.length_take] at this; omega
        · refine TrF.text (k := 0) (tr_else b r h1 h2 h3) (trF n false r hr) (by simp) ?_
          unfold esc; split <;> simp
end
section

set_option maxHeartbeats 16000000 in
theorem c_translate (w : World) (x : List Nat) (t : Tok) (hz : x.length ≤ 300) (hh : 45 ∉ x) : ConT w 43 [.str ⟨x.toArray⟩ t] 8 160 (fun v tl => ∃ u, v = .str (stz (joinT (transL false x))) u) := by
  intro p loose mean mg mb dp un gd cn cs a ccd cl outer A₀ base h₀ L m news g ts s Q E B F X N T hk U hts hpos hd hu hret
  (refine wpAny_call ?_; k_dflt cell_enter; (try dsimp only [bd3, bd6, bd8, bd9, bd12, bd14, bd16, bd17, bd18, bd19, bd20, bd21, bd22, bd23, ar3, ar6, ar8, ar9, ar12, ar14, ar16, ar17, ar18, ar19, ar20, ar21, ar22, ar23, sc3, sc6, sc8, sc9, sc12, sc14, sc16, sc17, sc18, sc19, sc20, sc21, sc22, sc23] at *); (try simp only [List.map_cons, List.map_nil, List.nil_append, List.append_nil, List.cons_append] at *); (refine let_env ?_); intro A1 e1)
  (repeat' (first | (k_unfold; (try dsimp only)) | (k_end; wrow_close) | ((with_reducible show wpAny _ _ (call (Value.ref 62) _) _ _ _); refine stopW ?_) | ((with_reducible show wpAny _ _ (call (Value.type "object") _ _) _ _ _); (k_dflt (refine' call_object (by k_asm) (by k_asm) ?_); intro _ _ _ _ _; (try dsimp only))) | walk1 | (dsimp only; first | ((with_reducible show wpAny _ _ (call (Value.ref 62) _) _ _ _); refine stopW ?_) | ((with_reducible show wpAny _ _ (call (Value.type "object") _ _) _ _ _); (k_dflt (refine' call_object (by k_asm) (by k_asm) ?_); intro _ _ _ _ _; (try dsimp only))) | walk1) | (leave1; walk_say "STEP leave1"; try dsimp only) | fail "no step"))
  unfold StopW
  rename_i FG B1 X1 T1 tk0 S h5 lS hh5 F5 N5
  have hS57 : S ≠ 57 := Nat.ne_of_gt (lS _ (updf_mem U))
  have hgn : g (tabObj ts) = news := updf_same U
  refine c_trans w x t (.ref S) (.inr ⟨S, rfl⟩) _ (by omega) hh p loose mean mg mb _ _ _ _ _ _ _ _ _ _ _ _ _ _ ((S, objO) :: news) (fun o => (S, objO) :: g o) ts _ _ _ B1 F5 X1 N5 T1 rfl (.tail hS57 U) (hts.mono fun _ h => .tail _ h) (Nat.succ_pos _) (by ktr_room) (by ktr_units) ?_
  rintro v tl h9 tk9 ts9 ⟨D, vs, n, rfl, hm, hpa⟩ hlt9 hts9 F9 N9
  clear F5 N5
  have hf := trF _ false x (Nat.le_refl _)
  (repeat' (first | (k_unfold; (try dsimp only)) | (k_end; wrow_close) | ((with_reducible show wpAny _ _ (call (Value.ref 69) _) _ _ _); refine stopW ?_) | walk1 | (dsimp only; first | ((with_reducible show wpAny _ _ (call (Value.ref 69) _) _ _ _); refine stopW ?_) | walk1) | (leave1; walk_say "STEP leave1"; try dsimp only) | fail "no step"))
  unfold StopW
  rename Fr _ _ _ _ => F6
  rename News _ _ _ _ => N6
  refine' con_use (c_join w D (.ref S) (.inr ⟨S, rfl⟩) vs (transL false x) hpa ?i1 ?i2 hf.adj n) ?k1 ?k2 ?k3 ?k4 ?k5 ?k6 (List.mem_append_left _ hm) ?k7 ?k8 ?_
  case i1 => rw [hpa.length]; have := hf.len; omega
  case i2 => have := hf.tot; omega
  ((case k1 => k_asm); (case k2 => k_asm); (case k3 => k_asm); (case k4 => k_asm); (case k5 => k_asm); (case k6 => exact rfl); (case k7 => ktr_room); (case k8 => ktr_units))
  rintro v tl2 h8 tk8 ⟨rfl, u8, rfl⟩ hlt8 F8 N8
  k_steps
  rename Fr h₀ L _ m => Ff
  rename News h₀ L _ _ => Nf
  refine hret _ (tl ++ [(S, objO)]) _ _ ts9 ⟨u8, rfl⟩ ?_ ?_ Ff ?_
  · intro q hq p hp
    rcases List.mem_append.mp hp with hp | hp
    · exact hlt9 q (.tail _ hq) p hp
    · rw [List.mem_singleton.mp hp]; exact lS q hq
  · rw [List.append_assoc]; exact hts9
  · rw [List.append_assoc]; exact Nf
end
section

section
variable {prog : Program} {w : World} {A : Around} {E : Value → Shared → Prop} {s : Shared} {env : Env} {h₀ : Heap} {x : Str} {body : List Stmt} {Q : Flow → Shared → Prop}
theorem iter_vals {l : Addr} {vs : List Value} {nn : Nat} {m₀ : Str → Option Value} {news : List (Addr × Obj)} (J : Nat → (Str → Option Value) → List (Addr × Obj) → Prop)
    (hh : A.handled = none) (hl : (l, listOf vs.toArray nn) ∈ news) (F : Fr h₀ env.locals s.heap m₀) (N : News h₀ env.locals s.heap news) (hj : J 0 m₀ news)
    (turn : ∀ i v m₁ news₁ h tk own, vs[i]? = some v → news₁.map (·.1) = news.map (·.1) → OwnOff own (news.map (·.1)) → (l, listOf vs.toArray nn) ∈ news₁ → J i m₁ news₁ → Fr h₀ env.locals h (fun y => if y = x then some v else m₁ y) → News h₀ env.locals h (news₁ ++ own) →
      wpAny (model prog w) A (execs body env) (InvPostN h₀ env.locals (fun m' nx => (l, listOf vs.toArray nn) ∈ nx ∧ J (i + 1) m' nx) own (news.map (·.1)) { s with heap := h, toks := tk } Q) E { s with heap := h, toks := tk })
    (done : ∀ m₁ news₁ h tk, (l, listOf vs.toArray nn) ∈ news₁ → J vs.length m₁ news₁ → Fr h₀ env.locals h m₁ → News h₀ env.locals h news₁ → Q .next { s with heap := h, toks := tk }) :
    wpAny (model prog w) A (pyIter (.ref l)) (fun it s₂ => LoopAtV prog w A h₀ env x body Q E it s₂) E s := by
  have hol : s.heap.get? l = some (listOf vs.toArray nn) := (N _ hl).1
  have hls : s.heap.IsList l vs.toArray := ⟨_, hol, rfl, nn, rfl⟩
  have hne : l ≠ s.heap.objs.size := Nat.ne_of_lt (Heap.lt_size hol)
  refine wpAny_pyIter_list hls ?_
  have W := Walks.list (prog := prog) (w := w) hh s.heap.objs.size l hne vs.toArray
  have hlen : vs.toArray.size = vs.length := by simp
  rw [hlen] at W
  refine ⟨_, _, _, vs.length, _, _, m₀, news, (fun i m nx => nx.map (·.1) = news.map (·.1) ∧ (l, listOf vs.toArray nn) ∈ nx ∧ J i m nx), rfl, W, ?_, ?_, ?_, ⟨⟨_, Heap.get?_push_size _ rfl, rfl, rfl⟩, hls.at fun o e => Heap.get?_push_of_some _ e⟩, F.push _, (fun p hp => ⟨Heap.get?_push_of_some _ (N p hp).1, (N p hp).2⟩), ⟨rfl, hl, hj⟩, ?_, ?_⟩
  · intro hm
    rcases List.mem_cons.mp hm with e | hm
    · exact absurd F.ns.lt (e ▸ Nat.lt_irrefl _)
    · exact (N _ hl).2.1 ((List.mem_singleton.mp hm).symm)
  · intro b hb
    rw [List.mem_singleton.mp hb]
    exact next_is_new F
  · intro p hp hI
    exact absurd (Heap.lt_size (N p hp).1) ((List.mem_singleton.mp hI) ▸ Nat.lt_irrefl _)
  · rintro i v m₁ news₁ s₁ own ⟨hh', tk', rfl⟩ hin hP ⟨hadr, hl₁, hJ⟩ hoff hown hget hfp _ F₁ N₁
    have hsep : OwnOff (own.filter fun p => decide (p.1 = s.heap.objs.size)) (news.map (·.1)) := by
      intro p hp b hb e
      obtain ⟨q, hq, rfl⟩ := List.mem_map.mp hb
      have h1 : p.1 = s.heap.objs.size := by simpa using (List.mem_filter.mp hp).2
      exact absurd (Heap.lt_size (N q hq).1) (by rw [← e, h1]; exact Nat.lt_irrefl _)
    have hv : vs[i]? = some v := by simpa using hP
    have N₂ : News h₀ env.locals hh' (news₁ ++ own.filter fun p => decide (p.1 = s.heap.objs.size)) := fun p hp => N₁ p ((List.mem_append.mp hp).elim (fun h => List.mem_append.mpr (.inr h)) fun h => List.mem_append.mpr (.inl ((List.mem_filter.mp h).1)))
    have hlo : hh'.get? l = some (listOf vs.toArray nn) := (N₁ _ (List.mem_append.mpr (.inr hl₁))).1
    refine wpAny_mono (turn i v m₁ news₁ hh' tk' _ hv hadr hsep hl₁ hJ F₁ N₂) (fun f s₂ p => ?_) fun _ _ e => e
    have fin : InvEndN h₀ env.locals (fun m' nx => (l, listOf vs.toArray nn) ∈ nx ∧ J (i + 1) m' nx) (own.filter fun p => decide (p.1 = s.heap.objs.size)) (news.map (·.1)) { s with heap := hh', toks := tk' } s₂ →
        LoopStepU h₀ env.locals [s.heap.objs.size] own (fun m nx => nx.map (·.1) = news.map (·.1) ∧ (l, listOf vs.toArray nn) ∈ nx ∧ J (i + 1) m nx) { s with heap := hh', toks := tk' } .next s₂ := by
      rintro ⟨h', tk, m', news', nx, e, F', N', hn, ho, ha, hm⟩
      refine ⟨rfl, h', tk, m', nx, e, F', fun p hp => ?_, fun p hp => ?_, ha, hm⟩
      · rcases List.mem_append.mp hp with h | h
        · by_cases hI : p.1 = s.heap.objs.size
          · exact N' p (ho p (List.mem_filter.mpr ⟨h, by simpa using hI⟩))
          · have h1 : p.1 = l := by
              rcases List.mem_cons.mp (hown p h) with h2 | h2
              · exact absurd h2 hI
              · exact List.mem_singleton.mp h2
            have h2 : hh'.get? p.1 = some p.2 := hget p h
            rw [h1, hlo] at h2
            have h3 : p = (l, listOf vs.toArray nn) := Prod.ext h1 (Option.some.inj h2).symm
            rw [h3]
            exact N' _ (hn _ hm.1)
        · exact N' p (hn p h)
      · have h1 : p.1 ∈ nx.map (·.1) := List.mem_map.mpr ⟨p, hp, rfl⟩
        rw [ha] at h1
        obtain ⟨q, hq, e⟩ := List.mem_map.mp h1
        intro hI
        exact absurd (Heap.lt_size (N q hq).1) (by rw [e, List.mem_singleton.mp hI]; exact Nat.lt_irrefl _)
    cases f with
    | ret v => exact .ret p
    | brk => exact .brk p
    | next => exact .next (fin p)
    | cont => exact .cont (fin p)
  · rintro h' tk m' news' F' N' _ ⟨_, hl', hJ⟩
    exact done m' news' h' tk hl' hJ F' N'
noncomputable abbrev nil0 (i : Nat) : List Int := List.replicate i 0
noncomputable def KstV {σ : Type} (Led : σ → List (Addr × Obj)) (ps : σ → List (Str × Value)) (x : Str) (stored : List Str) (m₀ : Str → Option Value) (P : Nat → σ → Prop) (i : Nat) : (Str → Option Value) → List (Addr × Obj) → Prop :=
  KstS Led ps (fun _ => True) x stored m₀ (fun l => P l.length) (nil0 i)
/-- a loop over the values of a list, by a state -/
theorem kst_vals {σ : Type} {l : Addr} {vs : List Value} {nn : Nat} {m₀ : Str → Option Value} (Led : σ → List (Addr × Obj)) (ps : σ → List (Str × Value)) (stored : List Str) (P : Nat → σ → Prop) (c₀ : σ)
    (hh : A.handled = none) (hl : ∀ c : σ, (l, listOf vs.toArray nn) ∈ Led c) (F : Fr h₀ env.locals s.heap m₀) (N : News h₀ env.locals s.heap (Led c₀)) (hk : ∀ p ∈ ps c₀, m₀ p.1 = some p.2) (hp : P 0 c₀)
    (turn : ∀ (c : σ) i v (u : Str → Option Value) h tk own, vs[i]? = some v → OwnOff own ((Led c₀).map (·.1)) → P i c →
      Fr h₀ env.locals h (fun y => if y = x then some v else kstB (fun z => if stored.contains z then u z else m₀ z) (ps c) y) → News h₀ env.locals h (Led c ++ own) →
      wpAny (model prog w) A (execs body env) (InvPostN h₀ env.locals (KstV Led ps x stored m₀ P (i + 1)) own ((Led c₀).map (·.1)) { s with heap := h, toks := tk } Q) E { s with heap := h, toks := tk })
    (done : ∀ (c : σ) (u : Str → Option Value) h tk, P vs.length c → Fr h₀ env.locals h (fun y => if y = x then u y else kstB (fun z => if stored.contains z then u z else m₀ z) (ps c) y) → News h₀ env.locals h (Led c) → Q .next { s with heap := h, toks := tk }) :
    wpAny (model prog w) A (pyIter (.ref l)) (fun it s₂ => LoopAtV prog w A h₀ env x body Q E it s₂) E s := by
  refine iter_vals (fun i m nx => KstV Led ps x stored m₀ P i m nx) hh (hl c₀) F N (show KstS _ _ _ _ _ _ _ _ _ _ from ⟨c₀, rfl, trivial, hk, fun _ _ _ _ => rfl, by simpa using hp⟩) ?_ ?_
  · rintro i v m₁ nx h tk own hn _ hoff _ ⟨c, rfl, hf', h1, h2, hp'⟩ F₁ N₁
    rw [List.length_replicate] at hp'
    refine wpAny_mono (turn c i v m₁ h tk own hn hoff hp' (kst_fr h1 h2 F₁) N₁) (fun f s₂ p => ?_) fun _ _ x => x
    have up : InvEndN h₀ env.locals (KstV Led ps x stored m₀ P (i + 1)) own ((Led c₀).map (·.1)) { s with heap := h, toks := tk } s₂ →
        InvEndN h₀ env.locals (fun m' nx => (l, listOf vs.toArray nn) ∈ nx ∧ KstV Led ps x stored m₀ P (i + 1) m' nx) own ((Led c₀).map (·.1)) { s with heap := h, toks := tk } s₂ := by
      rintro ⟨h', tk', m', news', nx', e', F', N', hn', ho', ha, hS⟩
      refine ⟨h', tk', m', news', nx', e', F', N', hn', ho', ha, ?_, hS⟩
      obtain ⟨c', rfl, _⟩ := hS
      exact hl c'
    cases f with
    | ret v => exact p
    | brk => exact p
    | next => exact up p
    | cont => exact up p
  · rintro m₁ nx h tk _ ⟨c, rfl, hf', h1, h2, hp'⟩ F₁ N₁
    rw [List.length_replicate] at hp'
    exact done c m₁ h tk hp' (kst_frOut h1 h2 F₁) N₁
/-- the end of such a turn -/
theorem vend {σ : Type} {Led : σ → List (Addr × Obj)} {ps : σ → List (Str × Value)} {stored : List Str} {m₀ : Str → Option Value} {P : Nat → σ → Prop} {i : Nat} (c : σ) {L : Addr} {m' : Str → Option Value} {own news' : List (Addr × Obj)} {adr : List Addr} {s₁ : Shared} {h' : Heap} {tk : Nat}
    (F : Fr h₀ L h' m') (N : News h₀ L h' news') (hn : ∀ p ∈ Led c, p ∈ news') (ho : ∀ p ∈ own, p ∈ news') (ha : (Led c).map (·.1) = adr) (hk : ∀ p ∈ ps c, m' p.1 = some p.2) (hr : ∀ z, z ≠ x → (∀ p ∈ ps c, z ≠ p.1) → stored.contains z = false → m' z = m₀ z) (hp : P i c) :
    InvEndN h₀ L (KstV Led ps x stored m₀ P i) own adr s₁ { s₁ with heap := h', toks := tk } :=
  kst_end c F N hn ho ha trivial hk hr (by rw [List.length_replicate]; exact hp)
end
end
section

theorem pick_last (us : List Value) : slicePick us.toArray (some (-1)) none none = (us.drop (us.length - 1)).toArray := by
  rw [kms_pick_eq]
  congr 1
  unfold kms_pick
  simp only [kms_lo, kms_hi]
  rw [List.take_of_length_le]
  · congr 1
  · rw [List.length_drop]; simp
theorem PA.last_mem {us : List Value} {r : List Pt} (h : PA .none us r) {v : Value} {y : List Nat} {u : Tok} (hv : us.getLast? = some v) (e : v = .str ⟨y.toArray⟩ u) : some y ∈ r := by
  subst e
  have hl := h.length
  rw [List.getLast?_eq_getElem?] at hv
  have hlt : us.length - 1 < r.length := by rw [← hl]; exact (List.getElem?_eq_some_iff.mp hv).1
  cases hc : r[us.length - 1]'hlt with
  | none =>
    have := h.get_none (i := us.length - 1) (by rw [List.getElem?_eq_getElem hlt, hc])
    rw [hv] at this; cases this
  | some z =>
    obtain ⟨u', hu⟩ := h.get_some (i := us.length - 1) (x := z) (by rw [List.getElem?_eq_getElem hlt, hc])
    rw [hv] at hu
    have e : y = z := by
      have := Option.some.inj hu
      simp only [Value.str.injEq, Str.mk.injEq] at this
      simpa using this.1
    rw [e, ← hc]; exact List.getElem_mem hlt
theorem PA.drop_last {us : List Value} {r : List Pt} (h : PA .none us r) (hr : ∀ y, some y ∈ r → ∀ d ∈ y, d < 1114112) : (us = [] ∧ r = []) ∨ (us.drop (us.length - 1) = [.none] ∧ lastS r = true) ∨ ∃ (y : List Nat) (u : Tok), us.drop (us.length - 1) = [.str ⟨y.toArray⟩ u] ∧ lastS r = false ∧ ∀ d ∈ y, d < 1114112 := by
  rcases List.eq_nil_or_concat us with rfl | ⟨us', v, rfl⟩
  · exact .inl ⟨rfl, List.length_eq_zero_iff.mp h.length.symm⟩
  · rw [List.concat_eq_append] at h ⊢
    have e : (us' ++ [v]).drop ((us' ++ [v]).length - 1) = [v] := by simp
    rcases h.last (v := v) (by simp) with ⟨h1, rfl⟩ | ⟨h1, y, u, rfl⟩
    · exact .inr (.inl ⟨e, h1⟩)
    · exact .inr (.inr ⟨y, u, e, h1, hr y (h.last_mem (v := .str ⟨y.toArray⟩ u) (y := y) (u := u) (by simp) rfl)⟩)
section
variable {prog : Program} {w : World} {A : Around} {E : Value → Shared → Prop} {s : Shared} {h₀ : Heap} {L : Addr} {news : List (Addr × Obj)}
theorem ne_tail {Q : Value → Shared → Prop} {us : List Value} {r : List Pt} {a b : Addr} (hp : PA .none us r) (hr : ∀ y, some y ∈ r → ∀ d ∈ y, d < 1114112) (N : News h₀ L s.heap news) (ma : (a, { cls := .type "list", data := .seq (slicePick us.toArray (some (-1)) none none) }) ∈ news) (mb : (b, listOf #[.none] 0) ∈ news) (hu : A.units + 64 < cLine)
    (h : Q (.bool (!lastS r)) s) : wpAny (model prog w) A (compareOp .NotEq (.ref a) (.ref b)) Q E s := by
  rw [pick_last] at ma
  have Db : DatAll [] [Value.none] [Dat.none] := .cons .none .nil
  have go : ∀ {ds : List Dat}, DatAll [] (us.drop (us.length - 1)) ds → (∀ d ∈ ds, kqdOk 8 d = true) → (ds = [Dat.none] ↔ lastS r = true) → wpAny (model prog w) A (compareOp .NotEq (.ref a) (.ref b)) Q E s := by
    intro ds Da hd e
    refine kqd_ne N ma rfl rfl Da (fun _ h => nomatch h) mb rfl rfl Db (fun _ h => nomatch h) hd (fun d hd => by rw [List.mem_singleton.mp hd]; rfl) hu ?_
    rcases Classical.em (ds = [Dat.none]) with hq | hq
    · rw [e.mp hq] at h; simpa only [hq, decide_true, Bool.not_true] using h
    · rw [Bool.eq_false_iff.mpr fun x => hq (e.mpr x)] at h; simpa only [hq, decide_false, Bool.not_false] using h
  rcases hp.drop_last hr with ⟨h1, h2⟩ | ⟨h1, h2⟩ | ⟨y, u, h1, h2, h3⟩
  · exact go (ds := []) (by rw [h1]; exact .nil) (fun _ h => nomatch h) (by rw [h2]; exact ⟨(fun h => nomatch h), (fun h => nomatch h)⟩)
  · exact go (ds := [.none]) (by rw [h1]; exact Db) (fun d hd => by rw [List.mem_singleton.mp hd]; rfl) (by rw [h2]; simp)
  · exact go (ds := [.str ⟨y.toArray⟩]) (by rw [h1]; exact .cons (.str _ _) .nil) (fun d hd => by rw [List.mem_singleton.mp hd]; exact Array.all_eq_true_iff_forall_mem.mpr (fun d hd => decide_eq_true (h3 d (by simpa using hd)))) (by rw [h2]; simp)
end
noncomputable def rareL (y : List Nat) : Option (List Nat) := if y = [890] then some [92, 32, 953] else if y = [13255] then some [99, 111, 92, 46] else none
noncomputable def rareD : List (PyData × PyData) := [(.str ⟨#[890]⟩, .str ⟨#[92, 32, 953]⟩), (.str ⟨#[13255]⟩, .str ⟨#[99, 111, 92, 46]⟩)]
noncomputable def RareO (w : World) (o : Obj) : Prop := ∃ kvs, o.IsDictOf (PySem.strKind PySem.Challenge.pw_rx0107_01 w) kvs ∧ PyProof.V.FlatPairs PyData.str kvs rareD
theorem rare_e1 : (⟨#[Int.toNat 92]⟩ ++ Str.ofString " " ++ ⟨#[Int.toNat 953]⟩ : Str) = ⟨#[92, 32, 953]⟩ := by decide +kernel
theorem rare_e2 : (Str.ofString "co" ++ ⟨#[Int.toNat 92]⟩ ++ Str.ofString "." : Str) = ⟨#[99, 111, 92, 46]⟩ := by decide +kernel
theorem rare_look (y : List Nat) : PySem.Spec.lookup (PyData.str ⟨y.toArray⟩) rareD = (rareL y).map fun z => PyData.str ⟨z.toArray⟩ := by
  have e : ∀ z : List Nat, PySem.Spec.same (PyData.str ⟨z.toArray⟩) (PyData.str ⟨y.toArray⟩) = decide (y = z) := by
    intro z
    rw [PyProof.V.same_str]
    refine decide_eq_decide.mpr ⟨fun h => ?_, fun h => by rw [h]⟩
    have := congrArg (fun x : Str => x.cps.toList) h
    simpa using this.symm
  unfold rareD rareL
  show (if PySem.Spec.same (PyData.str ⟨[890].toArray⟩) (PyData.str ⟨y.toArray⟩) then some (PyData.str ⟨#[92, 32, 953]⟩) else if PySem.Spec.same (PyData.str ⟨[13255].toArray⟩) (PyData.str ⟨y.toArray⟩) then some (PyData.str ⟨#[99, 111, 92, 46]⟩) else none) = _
  rw [e, e]
  simp only [decide_eq_true_eq]
  split
  · rfl
  · split <;> rfl
theorem rareL_ne {y z : List Nat} (h : rareL y = some z) : ∃ a r, z = a :: r ∧ (a :: r).length ≤ 4 := by
  unfold rareL at h
  split at h
  · cases h; exact ⟨_, _, rfl, by decide⟩
  · split at h
    · cases h; exact ⟨_, _, rfl, by decide⟩
    · cases h
section
variable {w : World} {A : Around} {E : Value → Shared → Prop} {s : Shared} {h₀ : Heap} {L d : Addr} {news : List (Addr × Obj)} {o : Obj} {y z : List Nat} {tk : Tok}
theorem rare_tab (R : RareO w o) (N : News h₀ L s.heap news) (hm : (d, o) ∈ news) (hs : (d == sysModules) = false) : StrTab PySem.Challenge.pw_rx0107_01 w s.heap d rareD := by
  obtain ⟨kvs, h1, h2⟩ := R
  exact ⟨hs, kvs, Heap.dictOf_iff.mpr ⟨o, (N _ hm).1, h1⟩, h2⟩
theorem rare_meth {pl : Sem Bool} {Q : Value × List Value → Shared → Prop} (R : RareO w o) (N : News h₀ L s.heap news) (hm : (d, o) ∈ news) (hs : (d == sysModules) = false) (h : Q (.builtin "dict.get", [.ref d]) s) :
    wpAny (model PySem.Challenge.pw_rx0107_01 w) A (getMethod (.ref d) "get" pl) Q E s := getMethod_strTab_get (rare_tab R N hm hs) h
theorem rare_hit {Q : Value → Shared → Prop} (hr : rareL y = some z) (R : RareO w o) (N : News h₀ L s.heap news) (hm : (d, o) ∈ news) (hs : (d == sysModules) = false) (h : ∀ t, Q (.str ⟨z.toArray⟩ t) { s with toks := s.toks + 1 }) :
    wpAny (model PySem.Challenge.pw_rx0107_01 w) A (call (.builtin "dict.get") [.ref d, .str ⟨y.toArray⟩ tk]) Q E s :=
  call_get1_strTab (rare_tab R N hm hs) fun v hv => by
    rw [rare_look, hr] at hv
    obtain ⟨t, rfl⟩ := PyProof.V.Flat.str_inv hv
    exact h t
theorem rare_miss {Q : Value → Shared → Prop} (hr : rareL y = none) (R : RareO w o) (N : News h₀ L s.heap news) (hm : (d, o) ∈ news) (hs : (d == sysModules) = false) (h : Q .none { s with toks := s.toks + 1 }) :
    wpAny (model PySem.Challenge.pw_rx0107_01 w) A (call (.builtin "dict.get") [.ref d, .str ⟨y.toArray⟩ tk]) Q E s :=
  call_get1_strTab (rare_tab R N hm hs) fun v hv => by
    rw [rare_look, hr] at hv
    have hv' : PyProof.V.Flat v .none := hv
    rw [hv'.none_inv]
    exact h
end
end
section

section
open PySem.Unicode PySem.UnicodeData
theorem shifted_mem : ∀ (l : List (Nat × Nat × Nat)) (c d : Nat), shifted l c = some d → ∃ q ∈ l, q.1 ≤ c ∧ c ≤ q.2.1 ∧ d = q.2.2 + (c - q.1)
  | [], _, _, h => by cases h
  | (a, b, t) :: r, c, d, h => by
    unfold shifted at h
    split at h
    · cases h
    · split at h
      · cases h; exact ⟨_, .head _, by simp only; omega, by assumption, rfl⟩
      · obtain ⟨q, hq, e⟩ := shifted_mem r c d h
        exact ⟨q, .tail _ hq, e⟩
theorem low_tab : oneLower.all (fun q => (decide (128 ≤ q.2.2) || (decide (97 ≤ q.2.2) && decide (q.2.2 + (q.2.1 - q.1) ≤ 122))) && decide (q.2.2 + (q.2.1 - q.1) < 1114112)) = true := by decide +kernel
theorem shifted_low {c d : Nat} (h : shifted oneLower c = some d) : (128 ≤ d ∨ (97 ≤ d ∧ d ≤ 122)) ∧ d < 1114112 := by
  obtain ⟨q, hq, h1, h2, rfl⟩ := shifted_mem _ _ _ h
  have := List.all_eq_true.mp low_tab q hq
  simp only [Bool.and_eq_true, Bool.or_eq_true, decide_eq_true_eq] at this
  obtain ⟨h3 | ⟨h3, h4⟩, h6⟩ := this
  · exact ⟨.inl (by omega), by omega⟩
  · exact ⟨.inr (by omega), by omega⟩
theorem several_low {c : Nat} {cs : List Nat} (h : severalLower.lookup c = some cs) : ∀ d ∈ cs, (128 ≤ d ∨ (97 ≤ d ∧ d ≤ 122)) ∧ d < 1114112 := by
  have := PySem.StrLaws.lookup_all (p := fun l => l.all fun d => (decide (128 ≤ d) || (decide (97 ≤ d) && decide (d ≤ 122))) && decide (d < 1114112)) severalLower c cs (by decide +kernel) h
  intro d hd
  have := List.all_eq_true.mp this d hd
  simpa using this
theorem lower_one (c : Nat) : (Txt.lower ⟨#[c]⟩).cps.toList = lowerAt #[c] 0 := by
  unfold Txt.lower placed
  simp
theorem lowerAt_mem {c d : Nat} (h : d ∈ lowerAt #[c] 0) : d = c ∨ ((128 ≤ d ∨ (97 ≤ d ∧ d ≤ 122)) ∧ d < 1114112) := by
  unfold lowerAt at h
  simp only [List.getElem?_toArray, List.getElem?_cons_zero] at h
  split at h
  · rw [List.mem_singleton.mp h]; exact .inr (by decide)
  · unfold lowerOf image at h
    split at h
    · rename_i cs hcs
      exact .inr (several_low hcs d h)
    · rw [List.mem_singleton.mp h]
      cases hs : shifted oneLower c with
      | none => exact .inl rfl
      | some x => exact .inr (shifted_low hs)
end
/-- the signs that the law singles out -/
noncomputable def Zs : List Nat := [9, 10, 11, 12, 13, 32, 33, 35, 36, 38, 40, 41, 42, 43, 45, 46, 63, 91, 92, 93, 94, 123, 124, 125, 126]
theorem tab_facts : tab88.all (fun kv => kv.2.cps.toList.all (fun d => decide (d < 1114112)) && (kv.1 == 890 || kv.1 == 13255 || kv.2.cps.toList.all (fun d => !Zs.contains d))) = true := by decide +kernel
theorem Zs_hi {d : Nat} (h : d ∈ Zs) : d < 127 ∧ ¬ (97 ≤ d ∧ d ≤ 122) := by
  have : Zs.all (fun d => decide (d < 127 ∧ ¬ (97 ≤ d ∧ d ≤ 122))) = true := by decide
  exact of_decide_eq_true (List.all_eq_true.mp this d h)
theorem b3_lt {c : Nat} (hc : c < 1114112) : ∀ d ∈ (b3 c).cps.toList, d < 1114112 := by
  intro d hd
  unfold b3 at hd
  split at hd
  · rename_i kv h
    have h1 := List.mem_of_find?_eq_some h
    have := List.all_eq_true.mp tab_facts kv h1
    rw [Bool.and_eq_true] at this
    exact of_decide_eq_true (List.all_eq_true.mp this.1 d hd)
  · rw [lower_one] at hd
    rcases lowerAt_mem hd with rfl | h
    · exact hc
    · exact h.2
theorem b3_Z : ∀ c ∈ Zs, b3 c = ⟨#[c]⟩ := by
  have : Zs.all (fun c => b3 c == ⟨#[c]⟩) = true := by decide +kernel
  exact fun c hc => eq_of_beq (List.all_eq_true.mp this c hc)
theorem b3_notZ {c : Nat} (h1 : c ∉ Zs) (h2 : c ≠ 890) (h3 : c ≠ 13255) : ∀ d ∈ (b3 c).cps.toList, d ∉ Zs := by
  intro d hd hZ
  unfold b3 at hd
  split at hd
  · rename_i kv h
    have h4 := List.mem_of_find?_eq_some h
    have h5 := List.find?_some h
    have := List.all_eq_true.mp tab_facts kv h4
    simp only [Bool.and_eq_true, Bool.or_eq_true, beq_iff_eq] at this h5
    rcases this.2 with (h6 | h6) | h6
    · omega
    · omega
    · have := List.all_eq_true.mp h6 d hd
      simp [hZ] at this
  · rw [lower_one] at hd
    rcases lowerAt_mem hd with rfl | h
    · exact h1 hZ
    · have := Zs_hi hZ
      omega
theorem prep_lt {y : List Nat} (h : ∀ c ∈ y, c < 1114112) : ∀ d ∈ prep y, d < 1114112 := by
  intro d hd
  unfold prep at hd
  obtain ⟨c, hc, hd⟩ := List.mem_flatMap.mp hd
  exact b3_lt (h c (List.mem_filter.mp hc).1) d hd
end
section

theorem news_drop2 {h₀ h : Heap} {L : Addr} {a b : Addr × Obj} {l : List (Addr × Obj)} (N : News h₀ L h (a :: b :: l)) : News h₀ L h l := fun p hp => N p (.tail _ (.tail _ hp))
theorem units_row {un : Nat} (h : un + 160 < cLine) : un + 3 + 64 < cLine := Nat.lt_of_le_of_lt (by omega) h
theorem tx_nil {z : List Nat} (h : z = []) : ((⟨z.toArray⟩ : Str) == Str.ofString "") = true := by rw [h]; rfl
theorem tx_nnil {z : List Nat} (h : z ≠ []) : ((⟨z.toArray⟩ : Str) == Str.ofString "") = false := by
  rw [Bool.eq_false_iff]
  intro e
  have e2 : Str.ofString "" = ⟨#[]⟩ := by decide +kernel
  rw [e2] at e
  have := congrArg (fun x : Str => x.cps.toList) (eq_of_beq e)
  exact h (by simpa using this)
theorem c_prepL (w : World) (y : List Nat) (t : Tok) (hx : ∀ c ∈ y, c < 1114112) (hz : y.length ≤ 1000) : ConS w 159 [.str ⟨y.toArray⟩ t] 2 16 ⟨(prep y).toArray⟩ := by
  have := c_prep w ⟨y.toArray⟩ t (by simpa using hx) (by simpa [PySem.Str.length] using hz)
  simpa using this





noncomputable abbrev ptText (y : List Nat) : List Nat := (rareL y).getD (prep y)
noncomputable def rowStep (r : List Pt) : Pt → List Pt
  | none => if lastS r then r else r ++ [none]
  | some y => if ptText y = [] then r else r ++ [some (ptText y)]
noncomputable def rowL (ps : List Pt) : List Pt := ps.foldl rowStep []
theorem rowL_snoc (l : List Pt) (q : Pt) : rowL (l ++ [q]) = rowStep (rowL l) q := by unfold rowL; rw [List.foldl_append]; rfl
theorem rareL_ok {y z : List Nat} (h : rareL y = some z) : ∀ d ∈ z, d < 1114112 := by
  unfold rareL at h
  split at h
  · cases h; decide
  · split at h
    · cases h; decide
    · cases h
theorem ok_snoc {r : List Pt} {z : List Nat} (h : ∀ y, some y ∈ r → ∀ d ∈ y, d < 1114112) (hz : ∀ d ∈ z, d < 1114112) : ∀ y, some y ∈ r ++ [some z] → ∀ d ∈ y, d < 1114112 := by
  intro y hy
  rcases List.mem_append.mp hy with hy | hy
  · exact h y hy
  · cases List.mem_singleton.mp hy; exact hz
theorem ok_snoc_none {r : List Pt} (h : ∀ y, some y ∈ r → ∀ d ∈ y, d < 1114112) : ∀ y, some y ∈ r ++ [none] → ∀ d ∈ y, d < 1114112 := by
  intro y hy
  rcases List.mem_append.mp hy with hy | hy
  · exact h y hy
  · cases List.mem_singleton.mp hy
theorem led_in {α : Type} {p a b : α} {u v : List α} (h : p ∈ a :: b :: u) : p ∈ a :: b :: (u ++ v) := by
  rcases List.mem_cons.mp h with h | h
  · exact h ▸ .head _
  · rcases List.mem_cons.mp h with h | h
    · exact h ▸ .tail _ (.head _)
    · exact .tail _ (.tail _ (List.mem_append_left _ h))
theorem own_in {α : Type} {p a b : α} {u v : List α} (h : p ∈ v) : p ∈ a :: b :: (u ++ v) := .tail _ (.tail _ (List.mem_append_right _ h))
structure RowI (ps : List Pt) (i : Nat) (us : List Value) (r : List Pt) : Prop where
  pa : PA .none us r
  eq : r = rowL (ps.take i)
  len : us.length ≤ i
  ok : ∀ y, some y ∈ r → ∀ d ∈ y, d < 1114112
noncomputable abbrev RS := List Value × List Pt × Nat
set_option maxHeartbeats 4000000 in
theorem c_row (w : World) (ia : Addr) (xs : List Value) (ps : List Pt) (hps : PA .none xs ps) (hz : xs.length ≤ 1000) (hy : ∀ y, some y ∈ ps → y.length ≤ 1000 ∧ ∀ c ∈ y, c < 1114112) (n : Nat) : Con w 166 [.ref ia] (fun news => (ia, listOf xs.toArray n) ∈ news) 6 160 (fun v tl => ∃ D us k, v = .ref D ∧ (D, listOf (us : List Value).toArray k) ∈ tl ∧ PA .none us (rowL ps)) := by
  intro p loose mean mg mb dp un gd cn cs a ccd cl outer A₀ base h₀ L m news s Q E B F X N T hk hpre hd hu hret
  have hlen : xs.length = ps.length := hps.length
  (refine wpAny_call ?_; k_dflt cell_enter; (try dsimp only [bd3, bd6, bd8, bd9, bd12, bd14, bd16, bd17, bd18, bd19, bd20, bd21, bd22, bd23, ar3, ar6, ar8, ar9, ar12, ar14, ar16, ar17, ar18, ar19, ar20, ar21, ar22, ar23, sc3, sc6, sc8, sc9, sc12, sc14, sc16, sc17, sc18, sc19, sc20, sc21, sc22, sc23] at *); (try simp only [List.map_cons, List.map_nil, List.nil_append, List.append_nil, List.cons_append] at *); (refine let_env ?_); intro A1 e1)
  (repeat' (first | (k_unfold; (try dsimp only)) | (k_end; wrow_close) | ((with_reducible show wpAny _ _ (eval (PySem.Expr.Dict _ _ _) _) _ _ _); (k_dflt (refine' kdn_eval (knd := PySem.strKind _ _) (by k_asm) (by k_asm) (by exact Top.nolimit (by k_asm)) (by rfl) (by rfl) (by exact List.cons_ne_nil _ _) (by exact Nat.le_of_ble_eq_true rfl) ?_); intro d' h' o' F' N' l1 lo' hd'; (try k_lt l1); (revert d' h' o' F' N' l1 lo' hd'; intro _ _ _ _ _ _ _ _))) | ((with_reducible show wpAny _ _ (pyIter (Value.ref _)) _ _ _); (refine stopW ?_)) | ((with_reducible show wpAny _ _ (exec (Stmt.For (PySem.Expr.Name _ _) (PySem.Expr.Name _ _) _ _ _) _) _ _ _); ((rename Fr _ _ _ _ => F'); (refine For_invVF F' (by rfl) (by rfl) ?_))) | walk1 | (dsimp only; first | ((with_reducible show wpAny _ _ (eval (PySem.Expr.Dict _ _ _) _) _ _ _); (k_dflt (refine' kdn_eval (knd := PySem.strKind _ _) (by k_asm) (by k_asm) (by exact Top.nolimit (by k_asm)) (by rfl) (by rfl) (by exact List.cons_ne_nil _ _) (by exact Nat.le_of_ble_eq_true rfl) ?_); intro d' h' o' F' N' l1 lo' hd'; (try k_lt l1); (revert d' h' o' F' N' l1 lo' hd'; intro _ _ _ _ _ _ _ _))) | ((with_reducible show wpAny _ _ (pyIter (Value.ref _)) _ _ _); (refine stopW ?_)) | ((with_reducible show wpAny _ _ (exec (Stmt.For (PySem.Expr.Name _ _) (PySem.Expr.Name _ _) _ _ _) _) _ _ _); ((rename Fr _ _ _ _ => F'); (refine For_invVF F' (by rfl) (by rfl) ?_))) | walk1) | (leave1; walk_say "STEP leave1"; try dsimp only) | fail "no step"))
  unfold StopW
  rename News _ _ _ _ => N1
  rename Fr _ _ _ _ => F1
  rename (PyProof.V.FlatPairs _ _ _) => hf1
  rename (Obj.IsDictOf _ _ _) => hd1
  rename (_ < _ ∧ AllLt _ _) => hlt
  rw [rare_e1, rare_e2] at hd1 hf1
  rename_i FG B1 X1 T1 tk0 d h4 ob ho hs hdz t3 k3 a3 t2 k2 a2 t1 k1 a1 t0 k0 a0 h3 o1 h2 l h1 hh
  have hR : RareO w o1 := ⟨_, hd1, hf1⟩
  have hsm : (d == sysModules) = false := hs
  clear hd1 hf1 hdz t3 a3 t2 a2 t1 a1 t0 a0 ob
  have hdl : d < l := hlt.1
  have hdl2 : d ≠ l := Nat.ne_of_lt hdl
  have hnl : ∀ p ∈ news, p.1 ≠ l := fun p hp => Nat.ne_of_lt (Nat.lt_trans (ho p hp) hdl)
  refine kst_vals (σ := RS) (vs := xs) (nn := n) (fun c => (l, listOf c.1.toArray c.2.2) :: (d, o1) :: news) (fun _ => []) [Str.ofString "text"] (fun i c => RowI ps i c.1 c.2.1) ([], [], 0) rfl (fun _ => .tail _ (.tail _ hpre)) F1 N1 (by kst_all) ⟨.nil, rfl, Nat.zero_le _, fun _ h => nomatch h⟩ ?turn ?done
  case turn =>
    intro c i v u h tk own hv hoff hp F2 N2
    clear F1 N1
    obtain ⟨us, r, k⟩ := c
    dsimp only at hp F2 N2 ⊢
    simp only [List.cons_append] at N2
    have hall : ∀ p ∈ (d, o1) :: (news ++ own), p.1 ≠ l := by
      intro p hp
      rcases List.mem_cons.mp hp with rfl | hp
      · exact hdl2
      · exact (List.mem_append.mp hp).elim (hnl p) fun h => hoff p h l (.head _)
    have hip : i < ps.length := by rw [← hlen]; exact (List.getElem?_eq_some_iff.mp hv).1
    have hul := hp.len
    cases hc : ps[i]'hip with
    | none =>
      have hc' : ps[i]? = some none := by rw [List.getElem?_eq_getElem hip, hc]
      have hx := hps.get_none hc'
      rw [hv] at hx
      cases hx
      have hpa := hp.pa
      have hok := hp.ok
      have htk : ps.take (i + 1) = ps.take i ++ [none] := by rw [List.take_add_one, hc']; rfl
      cases hls : lastS r with
      | true =>
        (repeat' (first | (k_unfold; (try dsimp only)) | (k_end; wrow_close) | ((with_reducible show wpAny _ _ (subscriptTail _ (PySem.Expr.Slice _ _ none _) (Value.ref _) (Value.ref _)) _ _ _); k_dflt (refine' slice_list (by assumption) (by assumption) (by exact news_list (by k_asm) (by walk_at "mine_mem")) (by first | exact .none | exact .int _ _) (by first | exact .none | exact .int _ _) ?_); intro _ _ _) | (((with_reducible show wpAny _ _ (compareOp PySem.CmpOp.NotEq (Value.ref _) (Value.ref _)) _ _ _); (k_dflt (refine' ne_tail (by assumption) (by assumption) (by k_asm) (by walk_at "mine_mem") (by walk_at "mine_mem") (by exact units_row (by assumption)) ?_); (rename News _ _ _ _ => nN8); (replace nN8 := news_drop2 nN8))); (revert nN8; intro _)) | walk1 | (dsimp only; first | ((with_reducible show wpAny _ _ (subscriptTail _ (PySem.Expr.Slice _ _ none _) (Value.ref _) (Value.ref _)) _ _ _); k_dflt (refine' slice_list (by assumption) (by assumption) (by exact news_list (by k_asm) (by walk_at "mine_mem")) (by first | exact .none | exact .int _ _) (by first | exact .none | exact .int _ _) ?_); intro _ _ _) | (((with_reducible show wpAny _ _ (compareOp PySem.CmpOp.NotEq (Value.ref _) (Value.ref _)) _ _ _); (k_dflt (refine' ne_tail (by assumption) (by assumption) (by k_asm) (by walk_at "mine_mem") (by walk_at "mine_mem") (by exact units_row (by assumption)) ?_); (rename News _ _ _ _ => nN8); (replace nN8 := news_drop2 nN8))); (revert nN8; intro _)) | walk1) | (leave1; walk_say "STEP leave1"; try dsimp only) | fail "no step"))
        rename News _ _ _ _ => N3
        rename Fr _ _ _ _ => F3
        exact vend (us, r, k) F3 N3 (fun _ h => led_in h) (fun _ h => own_in h) rfl (by kst_all) (by (intro z9 h19 h29 h39; (with_reducible (repeat (first | exact rfl | refine off_st h39 ?_ | refine off_st0 ?_ | refine off_nil ?_ | refine off_ite (by first | exact h19 | exact h29 _ me0 | exact h29 _ me1 | exact h29 _ me2 | exact h29 _ me3 | exact ne_st h39 me0 | exact ne_st h39 me1 | exact ne_st h39 me2) ?_ | refine off_kst (by first | exact h19 | exact h29 _ me0 | exact h29 _ me1 | exact h29 _ me2 | exact h29 _ me3 | exact ne_st h39 me0 | exact ne_st h39 me1 | exact ne_st h39 me2) ?_))); try exact rfl)) ⟨hp.pa, by rw [htk, rowL_snoc, ← hp.eq]; simp [rowStep, hls], by dsimp only; omega, hp.ok⟩
      | false =>
        (repeat' (first | (k_unfold; (try dsimp only)) | (k_end; wrow_close) | ((with_reducible show wpAny _ _ (subscriptTail _ (PySem.Expr.Slice _ _ none _) (Value.ref _) (Value.ref _)) _ _ _); k_dflt (refine' slice_list (by assumption) (by assumption) (by exact news_list (by k_asm) (by walk_at "mine_mem")) (by first | exact .none | exact .int _ _) (by first | exact .none | exact .int _ _) ?_); intro _ _ _) | (((with_reducible show wpAny _ _ (compareOp PySem.CmpOp.NotEq (Value.ref _) (Value.ref _)) _ _ _); (k_dflt (refine' ne_tail (by assumption) (by assumption) (by k_asm) (by walk_at "mine_mem") (by walk_at "mine_mem") (by exact units_row (by assumption)) ?_); (rename News _ _ _ _ => nN8); (replace nN8 := news_drop2 nN8))); (revert nN8; intro _)) | (((with_reducible show wpAny _ _ (call (Value.builtin "list.append") _ _) _ _ _); (k_dflt (refine' append_K (by k_asm) (by k_asm) (by walk_at "mine_upd") ?_ (by first | exact om24 (b := 2000) (by assumption) (by decide) | exact om24 (b := 1000) (by assumption) (by decide) | walk_at "mine_sz")); intro _ _ N9; (try dsimp only); (try simp only [List.push_toArray] at N9))); (revert N9; intro _)) | walk1 | (dsimp only; first | ((with_reducible show wpAny _ _ (subscriptTail _ (PySem.Expr.Slice _ _ none _) (Value.ref _) (Value.ref _)) _ _ _); k_dflt (refine' slice_list (by assumption) (by assumption) (by exact news_list (by k_asm) (by walk_at "mine_mem")) (by first | exact .none | exact .int _ _) (by first | exact .none | exact .int _ _) ?_); intro _ _ _) | (((with_reducible show wpAny _ _ (compareOp PySem.CmpOp.NotEq (Value.ref _) (Value.ref _)) _ _ _); (k_dflt (refine' ne_tail (by assumption) (by assumption) (by k_asm) (by walk_at "mine_mem") (by walk_at "mine_mem") (by exact units_row (by assumption)) ?_); (rename News _ _ _ _ => nN8); (replace nN8 := news_drop2 nN8))); (revert nN8; intro _)) | (((with_reducible show wpAny _ _ (call (Value.builtin "list.append") _ _) _ _ _); (k_dflt (refine' append_K (by k_asm) (by k_asm) (by walk_at "mine_upd") ?_ (by first | exact om24 (b := 2000) (by assumption) (by decide) | exact om24 (b := 1000) (by assumption) (by decide) | walk_at "mine_sz")); intro _ _ N9; (try dsimp only); (try simp only [List.push_toArray] at N9))); (revert N9; intro _)) | walk1) | (leave1; walk_say "STEP leave1"; try dsimp only) | fail "no step"))
        rename News _ _ _ _ => N3
        rename Fr _ _ _ _ => F3
        exact vend (us ++ [.none], r ++ [none], k + 1) F3 N3 (fun _ h => led_in h) (fun _ h => own_in h) rfl (by kst_all) (by (intro z9 h19 h29 h39; (with_reducible (repeat (first | exact rfl | refine off_st h39 ?_ | refine off_st0 ?_ | refine off_nil ?_ | refine off_ite (by first | exact h19 | exact h29 _ me0 | exact h29 _ me1 | exact h29 _ me2 | exact h29 _ me3 | exact ne_st h39 me0 | exact ne_st h39 me1 | exact ne_st h39 me2) ?_ | refine off_kst (by first | exact h19 | exact h29 _ me0 | exact h29 _ me1 | exact h29 _ me2 | exact h29 _ me3 | exact ne_st h39 me0 | exact ne_st h39 me1 | exact ne_st h39 me2) ?_))); try exact rfl)) ⟨hp.pa.snoc_star, by rw [htk, rowL_snoc, ← hp.eq]; simp [rowStep, hls], by simp; omega, ok_snoc_none hp.ok⟩
    | some y =>
      have hc' : ps[i]? = some (some y) := by rw [List.getElem?_eq_getElem hip, hc]
      obtain ⟨ux, hx⟩ := hps.get_some hc'
      rw [hv] at hx
      cases hx
      obtain ⟨hyl, hyc⟩ := hy y (List.mem_of_getElem? hc')
      have htk : ps.take (i + 1) = ps.take i ++ [some y] := by rw [List.take_add_one, hc']; rfl
      have hok := prep_lt hyc
      cases hr : rareL y with
      | some z =>
        obtain ⟨z0, zr, rfl, hzl⟩ := rareL_ne hr
        have hzc := rareL_ok hr
        have hpt : ptText y = z0 :: zr := by unfold ptText; rw [hr]; rfl
        (repeat' (first | (k_unfold; (try dsimp only)) | (k_end; wrow_close) | ((with_reducible show wpAny _ _ (compareOp PySem.CmpOp.NotEq (Value.str _ _) (Value.str _ _)) _ _ _); (k_dflt (first | (refine' ne_tx true (by exact tx_nil (by assumption)) ?_) | (refine' ne_tx false (by exact tx_nnil (by first | assumption | exact List.cons_ne_nil _ _)) ?_)))) | ((with_reducible show wpAny _ _ (truthy (Value.str (PySem.Str.mk (List.toArray (_ :: _))) _)) _ _ _); k_dflt (refine' truthy_tx (by omega) ?_); (try dsimp only)) | ((with_reducible show wpAny _ _ (call (Value.builtin "dict.get") _ _) _ _ _); (k_dflt (first | (refine' rare_hit (by assumption) (by assumption) (by k_asm) (by walk_at "mine_mem") (by assumption) ?_; intro _) | (refine' rare_miss (by assumption) (by assumption) (by k_asm) (by walk_at "mine_mem") (by assumption) ?_)); (try dsimp only))) | ((with_reducible show wpAny _ _ (getMethod (Value.ref _) _ _) _ _ _); (k_dflt (refine' rare_meth (by assumption) (by k_asm) (by walk_at "mine_mem") (by assumption) ?_); (try dsimp only))) | (((with_reducible show wpAny _ _ (call (Value.builtin "list.append") _ _) _ _ _); (k_dflt (refine' append_K (by k_asm) (by k_asm) (by walk_at "mine_upd") ?_ (by first | exact om24 (b := 2000) (by assumption) (by decide) | exact om24 (b := 1000) (by assumption) (by decide) | walk_at "mine_sz")); intro _ _ N9; (try dsimp only); (try simp only [List.push_toArray] at N9))); (revert N9; intro _)) | walk1 | (dsimp only; first | ((with_reducible show wpAny _ _ (compareOp PySem.CmpOp.NotEq (Value.str _ _) (Value.str _ _)) _ _ _); (k_dflt (first | (refine' ne_tx true (by exact tx_nil (by assumption)) ?_) | (refine' ne_tx false (by exact tx_nnil (by first | assumption | exact List.cons_ne_nil _ _)) ?_)))) | ((with_reducible show wpAny _ _ (truthy (Value.str (PySem.Str.mk (List.toArray (_ :: _))) _)) _ _ _); k_dflt (refine' truthy_tx (by omega) ?_); (try dsimp only)) | ((with_reducible show wpAny _ _ (call (Value.builtin "dict.get") _ _) _ _ _); (k_dflt (first | (refine' rare_hit (by assumption) (by assumption) (by k_asm) (by walk_at "mine_mem") (by assumption) ?_; intro _) | (refine' rare_miss (by assumption) (by assumption) (by k_asm) (by walk_at "mine_mem") (by assumption) ?_)); (try dsimp only))) | ((with_reducible show wpAny _ _ (getMethod (Value.ref _) _ _) _ _ _); (k_dflt (refine' rare_meth (by assumption) (by k_asm) (by walk_at "mine_mem") (by assumption) ?_); (try dsimp only))) | (((with_reducible show wpAny _ _ (call (Value.builtin "list.append") _ _) _ _ _); (k_dflt (refine' append_K (by k_asm) (by k_asm) (by walk_at "mine_upd") ?_ (by first | exact om24 (b := 2000) (by assumption) (by decide) | exact om24 (b := 1000) (by assumption) (by decide) | walk_at "mine_sz")); intro _ _ N9; (try dsimp only); (try simp only [List.push_toArray] at N9))); (revert N9; intro _)) | walk1) | (leave1; walk_say "STEP leave1"; try dsimp only) | fail "no step"))
        rename News _ _ _ _ => N3
        rename Fr _ _ _ _ => F3
        exact vend (us ++ [.str ⟨(z0 :: zr).toArray⟩ _], r ++ [some (z0 :: zr)], k + 1) F3 N3 (fun _ h => led_in h) (fun _ h => own_in h) rfl (by kst_all) (by (intro z9 h19 h29 h39; (with_reducible (repeat (first | exact rfl | refine off_st h39 ?_ | refine off_st0 ?_ | refine off_nil ?_ | refine off_ite (by first | exact h19 | exact h29 _ me0 | exact h29 _ me1 | exact h29 _ me2 | exact h29 _ me3 | exact ne_st h39 me0 | exact ne_st h39 me1 | exact ne_st h39 me2) ?_ | refine off_kst (by first | exact h19 | exact h29 _ me0 | exact h29 _ me1 | exact h29 _ me2 | exact h29 _ me3 | exact ne_st h39 me0 | exact ne_st h39 me1 | exact ne_st h39 me2) ?_))); try exact rfl)) ⟨hp.pa.snoc_str, by rw [htk, rowL_snoc, ← hp.eq]; simp [rowStep, hpt], by simp; omega, ok_snoc hp.ok hzc⟩
      | none =>
        have hpt : ptText y = prep y := by unfold ptText; rw [hr]; rfl
        by_cases hpn : prep y = []
        · (repeat' (first | (k_unfold; (try dsimp only)) | (k_end; wrow_close) | ((with_reducible show wpAny _ _ (compareOp PySem.CmpOp.NotEq (Value.str _ _) (Value.str _ _)) _ _ _); (k_dflt (first | (refine' ne_tx true (by exact tx_nil (by assumption)) ?_) | (refine' ne_tx false (by exact tx_nnil (by first | assumption | exact List.cons_ne_nil _ _)) ?_)))) | ((with_reducible show wpAny _ _ (call (Value.ref 159) [Value.str _ _]) _ _ _); k_dflt (refine' con_useS (c_prepL _ _ _ (by assumption) (by assumption)) (by k_asm) (by k_asm) (by k_asm) (by k_asm) (by k_asm) (by exact rfl) (by ktr_room) (by ktr_units) ?_); intro _ _ _ _ _; (try dsimp only)) | ((with_reducible show wpAny _ _ (call (Value.builtin "dict.get") _ _) _ _ _); (k_dflt (first | (refine' rare_hit (by assumption) (by assumption) (by k_asm) (by walk_at "mine_mem") (by assumption) ?_; intro _) | (refine' rare_miss (by assumption) (by assumption) (by k_asm) (by walk_at "mine_mem") (by assumption) ?_)); (try dsimp only))) | ((with_reducible show wpAny _ _ (getMethod (Value.ref _) _ _) _ _ _); (k_dflt (refine' rare_meth (by assumption) (by k_asm) (by walk_at "mine_mem") (by assumption) ?_); (try dsimp only))) | walk1 | (dsimp only; first | ((with_reducible show wpAny _ _ (compareOp PySem.CmpOp.NotEq (Value.str _ _) (Value.str _ _)) _ _ _); (k_dflt (first | (refine' ne_tx true (by exact tx_nil (by assumption)) ?_) | (refine' ne_tx false (by exact tx_nnil (by first | assumption | exact List.cons_ne_nil _ _)) ?_)))) | ((with_reducible show wpAny _ _ (call (Value.ref 159) [Value.str _ _]) _ _ _); k_dflt (refine' con_useS (c_prepL _ _ _ (by assumption) (by assumption)) (by k_asm) (by k_asm) (by k_asm) (by k_asm) (by k_asm) (by exact rfl) (by ktr_room) (by ktr_units) ?_); intro _ _ _ _ _; (try dsimp only)) | ((with_reducible show wpAny _ _ (call (Value.builtin "dict.get") _ _) _ _ _); (k_dflt (first | (refine' rare_hit (by assumption) (by assumption) (by k_asm) (by walk_at "mine_mem") (by assumption) ?_; intro _) | (refine' rare_miss (by assumption) (by assumption) (by k_asm) (by walk_at "mine_mem") (by assumption) ?_)); (try dsimp only))) | ((with_reducible show wpAny _ _ (getMethod (Value.ref _) _ _) _ _ _); (k_dflt (refine' rare_meth (by assumption) (by k_asm) (by walk_at "mine_mem") (by assumption) ?_); (try dsimp only))) | walk1) | (leave1; walk_say "STEP leave1"; try dsimp only) | fail "no step"))
          rename News _ _ _ _ => N3
          rename Fr _ _ _ _ => F3
          exact vend (us, r, k) F3 N3 (fun _ h => led_in h) (fun _ h => own_in h) rfl (by kst_all) (by (intro z9 h19 h29 h39; (with_reducible (repeat (first | exact rfl | refine off_st h39 ?_ | refine off_st0 ?_ | refine off_nil ?_ | refine off_ite (by first | exact h19 | exact h29 _ me0 | exact h29 _ me1 | exact h29 _ me2 | exact h29 _ me3 | exact ne_st h39 me0 | exact ne_st h39 me1 | exact ne_st h39 me2) ?_ | refine off_kst (by first | exact h19 | exact h29 _ me0 | exact h29 _ me1 | exact h29 _ me2 | exact h29 _ me3 | exact ne_st h39 me0 | exact ne_st h39 me1 | exact ne_st h39 me2) ?_))); try exact rfl)) ⟨hp.pa, by rw [htk, rowL_snoc, ← hp.eq]; simp [rowStep, hpt, hpn], by dsimp only; omega, hp.ok⟩
        · (repeat' (first | (k_unfold; (try dsimp only)) | (k_end; wrow_close) | ((with_reducible show wpAny _ _ (compareOp PySem.CmpOp.NotEq (Value.str _ _) (Value.str _ _)) _ _ _); (k_dflt (first | (refine' ne_tx true (by exact tx_nil (by assumption)) ?_) | (refine' ne_tx false (by exact tx_nnil (by first | assumption | exact List.cons_ne_nil _ _)) ?_)))) | ((with_reducible show wpAny _ _ (call (Value.ref 159) [Value.str _ _]) _ _ _); k_dflt (refine' con_useS (c_prepL _ _ _ (by assumption) (by assumption)) (by k_asm) (by k_asm) (by k_asm) (by k_asm) (by k_asm) (by exact rfl) (by ktr_room) (by ktr_units) ?_); intro _ _ _ _ _; (try dsimp only)) | ((with_reducible show wpAny _ _ (call (Value.builtin "dict.get") _ _) _ _ _); (k_dflt (first | (refine' rare_hit (by assumption) (by assumption) (by k_asm) (by walk_at "mine_mem") (by assumption) ?_; intro _) | (refine' rare_miss (by assumption) (by assumption) (by k_asm) (by walk_at "mine_mem") (by assumption) ?_)); (try dsimp only))) | ((with_reducible show wpAny _ _ (getMethod (Value.ref _) _ _) _ _ _); (k_dflt (refine' rare_meth (by assumption) (by k_asm) (by walk_at "mine_mem") (by assumption) ?_); (try dsimp only))) | (((with_reducible show wpAny _ _ (call (Value.builtin "list.append") _ _) _ _ _); (k_dflt (refine' append_K (by k_asm) (by k_asm) (by walk_at "mine_upd") ?_ (by first | exact om24 (b := 2000) (by assumption) (by decide) | exact om24 (b := 1000) (by assumption) (by decide) | walk_at "mine_sz")); intro _ _ N9; (try dsimp only); (try simp only [List.push_toArray] at N9))); (revert N9; intro _)) | walk1 | (dsimp only; first | ((with_reducible show wpAny _ _ (compareOp PySem.CmpOp.NotEq (Value.str _ _) (Value.str _ _)) _ _ _); (k_dflt (first | (refine' ne_tx true (by exact tx_nil (by assumption)) ?_) | (refine' ne_tx false (by exact tx_nnil (by first | assumption | exact List.cons_ne_nil _ _)) ?_)))) | ((with_reducible show wpAny _ _ (call (Value.ref 159) [Value.str _ _]) _ _ _); k_dflt (refine' con_useS (c_prepL _ _ _ (by assumption) (by assumption)) (by k_asm) (by k_asm) (by k_asm) (by k_asm) (by k_asm) (by exact rfl) (by ktr_room) (by ktr_units) ?_); intro _ _ _ _ _; (try dsimp only)) | ((with_reducible show wpAny _ _ (call (Value.builtin "dict.get") _ _) _ _ _); (k_dflt (first | (refine' rare_hit (by assumption) (by assumption) (by k_asm) (by walk_at "mine_mem") (by assumption) ?_; intro _) | (refine' rare_miss (by assumption) (by assumption) (by k_asm) (by walk_at "mine_mem") (by assumption) ?_)); (try dsimp only))) | ((with_reducible show wpAny _ _ (getMethod (Value.ref _) _ _) _ _ _); (k_dflt (refine' rare_meth (by assumption) (by k_asm) (by walk_at "mine_mem") (by assumption) ?_); (try dsimp only))) | (((with_reducible show wpAny _ _ (call (Value.builtin "list.append") _ _) _ _ _); (k_dflt (refine' append_K (by k_asm) (by k_asm) (by walk_at "mine_upd") ?_ (by first | exact om24 (b := 2000) (by assumption) (by decide) | exact om24 (b := 1000) (by assumption) (by decide) | walk_at "mine_sz")); intro _ _ N9; (try dsimp only); (try simp only [List.push_toArray] at N9))); (revert N9; intro _)) | walk1) | (leave1; walk_say "STEP leave1"; try dsimp only) | fail "no step"))
          rename News _ _ _ _ => N3
          rename Fr _ _ _ _ => F3
          exact vend (us ++ [.str ⟨(prep y).toArray⟩ _], r ++ [some (prep y)], k + 1) F3 N3 (fun _ h => led_in h) (fun _ h => own_in h) rfl (by kst_all) (by (intro z9 h19 h29 h39; (with_reducible (repeat (first | exact rfl | refine off_st h39 ?_ | refine off_st0 ?_ | refine off_nil ?_ | refine off_ite (by first | exact h19 | exact h29 _ me0 | exact h29 _ me1 | exact h29 _ me2 | exact h29 _ me3 | exact ne_st h39 me0 | exact ne_st h39 me1 | exact ne_st h39 me2) ?_ | refine off_kst (by first | exact h19 | exact h29 _ me0 | exact h29 _ me1 | exact h29 _ me2 | exact h29 _ me3 | exact ne_st h39 me0 | exact ne_st h39 me1 | exact ne_st h39 me2) ?_))); try exact rfl)) ⟨hp.pa.snoc_str, by rw [htk, rowL_snoc, ← hp.eq]; simp [rowStep, hpt, hpn], by simp; omega, ok_snoc hp.ok hok⟩
  case done =>
    intro c u h tk hp F2 N2
    clear F1 N1
    obtain ⟨us, r, k⟩ := c
    dsimp only at hp F2 N2 ⊢
    k_steps
    rename Fr h₀ L _ m => Ff
    rename News h₀ L _ ((l, listOf us.toArray k) :: _) => Nf
    refine hret (.ref l) [(l, listOf us.toArray k), (d, o1)] _ _ ⟨l, us, k, rfl, .head _, ?_⟩ ?_ Ff Nf
    · have := hp.eq
      rw [hlen, List.take_length] at this
      rw [← this]; exact hp.pa
    · intro a ha p hp
      rcases List.mem_cons.mp hp with rfl | hp
      · exact Nat.lt_trans (ho a ha) hdl
      · rcases List.mem_cons.mp hp with rfl | hp
        · exact ho a ha
        · cases hp
end
section

/-- a frame, its names told in one list: what lies below is a letter -/
theorem flat_fr {h₀ h : Heap} {L : Addr} {m : Str → Option Value} (F : Fr h₀ L h m) (ps : List (Str × Value)) (hk : ∀ p ∈ ps, m p.1 = some p.2) : ∃ M, Fr h₀ L h (kstB M ps) := by
  refine ⟨m, ?_⟩
  have e : kstB m ps = m := by funext z; exact kstB_eq hk (fun _ => rfl)
  rw [e]; exact F
end
section

/-- the first place of c at or behind i -/
noncomputable def findL (l : List Nat) (c i : Nat) : Option Nat := ((l.drop i).findIdx? (· == c)).map (· + i)
noncomputable def findV : Option Nat → Int
  | some j => (j : Int)
  | none => -1
theorem findL_none {l : List Nat} {c i : Nat} (h : findL l c i = none) : ∀ k, i ≤ k → l[k]? ≠ some c := by
  unfold findL at h
  have h2 := List.findIdx?_eq_none_iff.mp (Option.map_eq_none_iff.mp h)
  intro k hk e
  have : c ∈ l.drop i := by
    rw [List.mem_iff_getElem?]
    exact ⟨k - i, by rw [List.getElem?_drop, show i + (k - i) = k by omega]; exact e⟩
  simpa using h2 c this
theorem findL_some {l : List Nat} {c i j : Nat} (h : findL l c i = some j) : i ≤ j ∧ l[j]? = some c ∧ ∀ k, i ≤ k → k < j → l[k]? ≠ some c := by
  unfold findL at h
  obtain ⟨m, hm, rfl⟩ := Option.map_eq_some_iff.mp h
  obtain ⟨h1, h2, h3⟩ := List.findIdx?_eq_some_iff_getElem.mp hm
  refine ⟨by omega, ?_, ?_⟩
  · have : (l.drop i)[m]? = some c := by rw [List.getElem?_eq_getElem h1]; simpa using h2
    rw [List.getElem?_drop] at this
    rw [Nat.add_comm]; exact this
  · intro k hk hkm e
    have hlt : k - i < m := by omega
    have := h3 (k - i) hlt
    have e2 : (l.drop i)[k - i]? = some c := by rw [List.getElem?_drop, show i + (k - i) = k by omega]; exact e
    rw [List.getElem?_eq_getElem (by omega)] at e2
    rw [Option.some.inj e2] at this
    simp at this
theorem from_nat (n i : Nat) : fromIndex n (i : Int) = i := by unfold fromIndex; rw [if_neg (by omega)]; omega
theorem getD_iff {l : List Nat} {k c : Nat} (hk : k < l.length) : l.toArray.getD k 0 = c ↔ l[k]? = some c := by
  rw [List.getElem?_eq_getElem hk]
  simp [hk]
theorem find3_L (l : List Nat) (c i : Nat) : Txt.find3 ⟨l.toArray⟩ ⟨#[c]⟩ (i : Int) = findV (findL l c i) := by
  have hlen : PySem.Str.length ⟨l.toArray⟩ = l.length := by simp [PySem.Str.length]
  have sp := PySem.StrLaws.find3_spec ⟨l.toArray⟩ c (i : Int)
  rw [hlen, from_nat] at sp
  cases hf : findL l c i with
  | none =>
    have hn := findL_none hf
    rcases sp with ⟨h, _⟩ | ⟨k, h, h1, h2, h3, _⟩
    · exact h
    · exact absurd ((getD_iff h2).mp h3) (hn k h1)
  | some j =>
    obtain ⟨h1, h2, h3⟩ := findL_some hf
    have hj : j < l.length := (List.getElem?_eq_some_iff.mp h2).1
    rcases sp with ⟨h, hn⟩ | ⟨k, h, h4, h5, h6, h7⟩
    · exact absurd ((getD_iff hj).mpr h2) (hn j h1 hj)
    · have hk := (getD_iff h5).mp h6
      rw [h]
      show (k : Int) = (j : Int)
      rcases Nat.lt_trichotomy k j with h8 | h8 | h8
      · exact absurd hk (h3 k h4 h8)
      · rw [h8]
      · exact absurd ((getD_iff hj).mpr h2) (h7 j h1 h8)
theorem find_L (l : List Nat) (c : Nat) : Txt.find ⟨l.toArray⟩ ⟨#[c]⟩ = findV (findL l c 0) := by
  rw [PyProof.Rows.find_is_find3]; exact find3_L l c 0
section
variable {prog : Program} {w : World} {A : Around} {E : Value → Shared → Prop} {s : Shared} {Q : Value → Shared → Prop} {l : List Nat} {t u v : Tok}
theorem find_br (h : ∀ k, Q (.int (findV (findL l 91 0)) k) { s with toks := k + 1 }) : wpAny (model prog w) A (call (.builtin "str.find") [.str ⟨l.toArray⟩ t, .str (Str.ofString "[") u]) Q E s := by
  refine SC.find ?_
  rw [show Str.ofString "[" = ⟨#[91]⟩ by decide +kernel, find_L]
  exact h _
theorem find_sh {i : Nat} (h : ∀ k, Q (.int (findV (findL l 93 i)) k) { s with toks := k + 1 }) : wpAny (model prog w) A (call (.builtin "str.find") [.str ⟨l.toArray⟩ t, .str (Str.ofString "]") u, .int (i : Int) v]) Q E s := by
  refine SC.find3 ?_
  rw [show Str.ofString "]" = ⟨#[93]⟩ by decide +kernel, find3_L]
  exact h _
end
theorem sl_upto {l : List Nat} {j : Nat} (h : j ≤ l.length) : Txt.slice ⟨l.toArray⟩ none (some (j : Int)) = ⟨(l.take j).toArray⟩ := by
  have := PySem.StrLaws.sliceText_to (x := (⟨l.toArray⟩ : Str)) (j := (j : Int)) ⟨by omega, by simpa using h⟩
  have h2 : PySem.StrLaws.sliceText ⟨l.toArray⟩ none (some (j : Int)) = ⟨(l.take j).toArray⟩ := by simpa using this
  exact h2
section
variable {prog : Program} {w : World} {A : Around} {E : Value → Shared → Prop} {s : Shared} {h₀ : Heap} {L l : Addr} {m : Str → Option Value} {news news' : List (Addr × Obj)}
theorem get_last {vs : List Value} {n : Nat} {u : Tok} {v : Value} {Q : Value → Shared → Prop} (N : News h₀ L s.heap news) (hm : (l, listOf vs.toArray n) ∈ news) (hv : vs.getLast? = some v) (h : Q v s) :
    wpAny (model prog w) A (getItem (.ref l) (.int (-1) u)) Q E s := by
  have hpos : 0 < vs.length := by
    cases vs with
    | nil => cases hv
    | cons a r => simp
  refine kde_getNeg (j := vs.length - 1) (news_list N hm) (by decide) (by decide) (seqIndex?_neg_one hpos) ?_ h
  rw [← hv, List.getLast?_eq_getElem?]
theorem set_last {vs : List Value} {n : Nat} {u : Tok} {v : Value} {Q : Unit → Shared → Prop} (F : Fr h₀ L s.heap m) (N : News h₀ L s.heap news) (U : Upd l (listOf vs.toArray n) (listOf (vs.dropLast ++ [v]).toArray n) news news') (hpos : 0 < vs.length) (hz : vs.length ≤ 100000)
    (h : ∀ h', Fr h₀ L h' m → News h₀ L h' news' → Q () { s with heap := h' }) : wpAny (model prog w) A (setItem (.ref l) (.int (-1) u) v) Q E s := by
  obtain ⟨pre, post, rfl, rfl, a, b⟩ := U.split
  have z := N (l, listOf vs.toArray n) (List.mem_append.mpr (.inr (.head _)))
  have hs : vs.toArray.size = vs.length := by simp
  refine ki_setBack z.1 (by decide) (by omega) (by decide) (h _ (F.change (Heap.SameBut.update ..) z.2.1 z.2.2) (ki_turn _ N a b ?_ ?_))
  · show vs.toArray.setIfInBounds ((-1 : Int) + (vs.toArray.size : Nat)).toNat v = (vs.dropLast ++ [v]).toArray
    rw [hs, show ((-1 : Int) + (vs.length : Nat)).toNat = vs.length - 1 by omega]
    apply Array.toList_inj.mp
    rcases List.eq_nil_or_concat vs with rfl | ⟨r, a, rfl⟩
    · simp at hpos
    · simp
  · simp; omega
end
theorem strs_drop : ∀ {us : List Value} {ws : List Str}, StrsAre us ws → StrsAre us.dropLast ws.dropLast
  | _, _, .nil => .nil
  | _, _, .cons _ _ .nil => .nil
  | _, _, .cons _ _ (.cons _ _ r) => .cons _ _ (strs_drop (.cons _ _ r))
theorem strs_last : ∀ {us : List Value} {ws : List Str} {w : Str}, StrsAre us ws → ws.getLast? = some w → ∃ u, us.getLast? = some (.str w u)
  | _, _, _, .nil, h => by cases h
  | _, _, _, .cons _ u .nil, h => by cases h; exact ⟨u, rfl⟩
  | _, _, _, .cons _ _ (.cons _ _ r), h => by
    obtain ⟨u, hu⟩ := strs_last (.cons _ _ r) (by simpa using h)
    exact ⟨u, by simpa using hu⟩
noncomputable abbrev stq (y : List Nat) : Str := ⟨y.toArray⟩
noncomputable def addL (rs : List (List Nat)) (y : List Nat) : List (List Nat) := rs.dropLast ++ [(rs.getLast?.getD []) ++ y]
/-- one sign ahead of the bracket -/
noncomputable def headStep (rs : List (List Nat)) (c : Nat) : List (List Nat) :=
  if c = 42 then rs ++ [[]] else if c = 63 then addL rs [46] else addL rs (esc c)
noncomputable def headL (l : List Nat) : List (List Nat) := l.foldl headStep [[]]
theorem headL_snoc (l : List Nat) (c : Nat) : headL (l ++ [c]) = headStep (headL l) c := by unfold headL; rw [List.foldl_append]; rfl
structure HdI (rs : List (List Nat)) (us : List Value) (i : Nat) : Prop where
  str : StrsAre us (rs.map stq)
  ne : rs ≠ []
  len : us.length ≤ i + 1
  sz : ∀ y ∈ rs, y.length ≤ 2 * i
theorem HdI.last {rs : List (List Nat)} {us : List Value} {i : Nat} (h : HdI rs us i) : ∃ y uy, us.getLast? = some (.str (stq y) uy) ∧ rs.getLast? = some y := by
  obtain ⟨y, hy⟩ : ∃ y, rs.getLast? = some y := by
    cases e : rs.getLast? with
    | none => exact absurd (List.getLast?_eq_none_iff.mp e) h.ne
    | some y => exact ⟨y, rfl⟩
  obtain ⟨u, hu⟩ := strs_last (w := stq y) h.str (by rw [List.getLast?_map, hy]; rfl)
  exact ⟨y, u, hu, hy⟩
theorem HdI.add {rs : List (List Nat)} {us : List Value} {i : Nat} {y z : List Nat} {v : Str} {t : Tok} (h : HdI rs us i) (hy : rs.getLast? = some y) (hv : v = stq (y ++ z)) (hz : z.length ≤ 2) : HdI (addL rs z) (us.dropLast ++ [.str v t]) (i + 1) := by
  have e : addL rs z = rs.dropLast ++ [y ++ z] := by unfold addL; rw [hy]; rfl
  rw [e]
  refine ⟨?_, by simp, ?_, ?_⟩
  · rw [List.map_append, hv, List.map_dropLast]
    exact strs_snoc (strs_drop h.str)
  · have := h.len; simp; omega
  · intro q hq
    rcases List.mem_append.mp hq with hq | hq
    · have := h.sz q (List.dropLast_subset _ hq); omega
    · rw [List.mem_singleton.mp hq, List.length_append]
      have := h.sz y (List.mem_of_getLast? hy); omega
theorem HdI.star {rs : List (List Nat)} {us : List Value} {i : Nat} {t : Tok} (h : HdI rs us i) : HdI (rs ++ [[]]) (us ++ [.str (Str.ofString "") t]) (i + 1) := by
  refine ⟨?_, by simp, ?_, ?_⟩
  · rw [List.map_append, show Str.ofString "" = stq [] by decide +kernel]
    exact strs_snoc h.str
  · have := h.len; simp; omega
  · intro q hq
    rcases List.mem_append.mp hq with hq | hq
    · have := h.sz q hq; omega
    · rw [List.mem_singleton.mp hq]; simp
theorem natsOf_nat (l : List Nat) : (l.map fun (c : Nat) => (c : Int)).map Int.toNat = l := by
  rw [List.map_map]; exact (List.map_congr_left (fun _ _ => rfl)).trans (List.map_id l)
theorem app_q (a b : List Nat) : (⟨a.toArray⟩ ++ ⟨b.toArray⟩ : Str) = ⟨(a ++ b).toArray⟩ := by
  show (⟨a.toArray ++ b.toArray⟩ : Str) = _
  congr 1
  simp
noncomputable abbrev spT : Str := Str.ofString " #$&()+.]^{|}~" ++ ⟨#[Int.toNat 92]⟩
noncomputable def spA : List Nat := [32, 35, 36, 38, 40, 41, 43, 46, 93, 94, 123, 124, 125, 126, 92]
theorem spT_eq : spT = ⟨spA.toArray⟩ := by decide +kernel
noncomputable def spL : List Nat := [9, 10, 11, 12, 13, 32, 35, 36, 38, 40, 41, 42, 43, 45, 46, 63, 91, 92, 93, 94, 123, 124, 125, 126]
theorem specials_all : specials.all (fun k => spL.any fun c => (c : Int) == k) = true ∧ spL.all (fun c => specials.contains (c : Int)) = true := by decide +kernel
theorem isSpec_eq (c : Nat) : isSpec c = spL.contains c := by
  unfold isSpec
  rw [Bool.eq_iff_iff]
  constructor
  · intro h
    have h2 := List.all_eq_true.mp specials_all.1 (c : Int) (by simpa using h)
    obtain ⟨d, hd, e⟩ := List.any_eq_true.mp h2
    have : d = c := by have := eq_of_beq e; omega
    rw [← this]; simpa using hd
  · intro h
    exact List.all_eq_true.mp specials_all.2 c (by simpa using h)
theorem esc_ctl {n : Nat} (h1 : 9 ≤ n) (h2 : n ≤ 13) : esc n = [92, n] := by
  unfold esc
  rw [isSpec_eq, if_pos]
  have : n = 9 ∨ n = 10 ∨ n = 11 ∨ n = 12 ∨ n = 13 := by omega
  rcases this with rfl | rfl | rfl | rfl | rfl <;> rfl
theorem esc_in {n : Nat} (h : Txt.contains spT ⟨#[n]⟩ = true) : esc n = [92, n] := by
  rw [spT_eq, has_one] at h
  unfold esc
  rw [isSpec_eq, if_pos]
  have h2 : spA.all (fun c => spL.contains c) = true := by decide
  exact List.all_eq_true.mp h2 n (by simpa using h)
theorem esc_out {n : Nat} (h9 : ¬ (9 ≤ n ∧ n ≤ 13)) (h : Txt.contains spT ⟨#[n]⟩ = false) (h1 : n ≠ 42) (h2 : n ≠ 63) (h3 : n ≠ 91) (h4 : n ≠ 45) : esc n = [n] := by
  rw [spT_eq, has_one] at h
  unfold esc
  rw [isSpec_eq, if_neg]
  intro e
  have h5 : spL.all (fun c => (decide (9 ≤ c) && decide (c ≤ 13)) || spA.contains c || c == 42 || c == 63 || c == 91 || c == 45) = true := by decide
  have := List.all_eq_true.mp h5 n (by simpa using e)
  simp only [h, Bool.or_false, Bool.or_eq_true, Bool.and_eq_true, decide_eq_true_eq, beq_iff_eq] at this
  omega
noncomputable abbrev codes9 (H : List Nat) : List Int := KStt.codes (⟨H.toArray⟩ : Str)
theorem codes9_eq (H : List Nat) : codes9 H = H.map fun (c : Nat) => (c : Int) := by simp [KStt.codes]
theorem codes9_mem {H : List Nat} {a b : List Int} {n : Nat} (h : codes9 H = a ++ (n : Int) :: b) : n ∈ H := by
  have : (n : Int) ∈ codes9 H := by rw [h]; simp
  rw [codes9_eq] at this
  obtain ⟨c, hc, e⟩ := List.mem_map.mp this
  have : c = n := by omega
  exact this ▸ hc
noncomputable def natsOf (l : List Int) : List Nat := l.map Int.toNat
theorem natsOf_snoc (l : List Int) (n : Nat) : natsOf (l ++ [(n : Int)]) = natsOf l ++ [n] := by simp [natsOf]
theorem natsOf_codes (H : List Nat) : natsOf (codes9 H) = H := by rw [codes9_eq]; exact natsOf_nat H
theorem led1_in {α : Type} {p a : α} {u v : List α} (h : p ∈ a :: u) : p ∈ a :: (u ++ v) := by
  rcases List.mem_cons.mp h with h | h
  · exact h ▸ .head _
  · exact .tail _ (List.mem_append_left _ h)
theorem own1_in {α : Type} {p a : α} {u v : List α} (h : p ∈ v) : p ∈ a :: (u ++ v) := .tail _ (List.mem_append_right _ h)
theorem sp_app (y : List Nat) (n : Nat) : (stq y ++ (⟨#[Int.toNat 92]⟩ ++ ⟨#[n]⟩) : Str) = stq (y ++ [92, n]) := by
  rw [show (⟨#[Int.toNat 92]⟩ ++ ⟨#[n]⟩ : Str) = ⟨[92, n].toArray⟩ from rfl]
  exact app_q y [92, n]
theorem findL_step {l : List Nat} {c i : Nat} (h : l[i]? ≠ some c) : findL l c i = findL l c (i + 1) := by
  cases e : findL l c i with
  | none =>
    cases e2 : findL l c (i + 1) with
    | none => rfl
    | some j =>
      obtain ⟨h1, h2, _⟩ := findL_some e2
      exact absurd h2 (findL_none e j (by omega))
  | some j =>
    obtain ⟨h1, h2, h3⟩ := findL_some e
    have hij : i + 1 ≤ j := by
      rcases Nat.lt_or_ge i j with h | h'
      · exact h
      · have : i = j := by omega
        subst this; exact absurd h2 h
    cases e2 : findL l c (i + 1) with
    | none => exact absurd h2 (findL_none e2 j hij)
    | some k =>
      obtain ⟨g1, g2, g3⟩ := findL_some e2
      rcases Nat.lt_trichotomy j k with q | q | q
      · exact absurd h2 (g3 j hij q)
      · rw [q]
      · exact absurd g2 (h3 k (by omega) q)
noncomputable def stL (r : List Nat) : List Nat := if r[0]? = some 33 then [91, 94] else [91]
theorem stL_len (r : List Nat) : (stL r).length = sc0 r + 1 := by unfold stL sc0; split <;> rfl
theorem shutAt_find (r : List Nat) : shutAt r = findL r 93 (stL r).length := by
  rw [stL_len]
  show findL r 93 (sc1 r) = _
  unfold sc1
  split
  · rfl
  · rename_i h; exact findL_step h
/-- the runs joined at the bracket -/
noncomputable def joinR (rs : List (List Nat)) (told : List Nat) (ts : List (List Nat)) : List (List Nat) := rs.dropLast ++ [(rs.getLast?.getD []) ++ told ++ (ts.head?.getD [])] ++ ts.tail
noncomputable def runsL (x : List Nat) : List (List Nat) :=
  match hf : findL x 91 0 with
  | none => headL x
  | some j => match shutAt (x.drop (j + 1)) with
    | none => joinR (headL (x.take j)) [92, 91] (runsL (x.drop (j + 1)))
    | some i => joinR (headL (x.take j)) (brk ((x.drop (j + 1)).take i)) (runsL ((x.drop (j + 1)).drop (i + 1)))
termination_by x.length
decreasing_by
  all_goals
    have := (List.getElem?_eq_some_iff.mp (findL_some hf).2.1).1
    simp
    omega
theorem runsL_none {x : List Nat} (h : findL x 91 0 = none) : runsL x = headL x := by
  rw [runsL]; split
  · rfl
  · rename_i h2; rw [h] at h2; cases h2
theorem runsL_open {x : List Nat} {j : Nat} (h : findL x 91 0 = some j) (hs : shutAt (x.drop (j + 1)) = none) : runsL x = joinR (headL (x.take j)) [92, 91] (runsL (x.drop (j + 1))) := by
  rw [runsL]; split
  · rename_i h2; rw [h] at h2; cases h2
  · rename_i j2 h2; rw [h] at h2; cases h2; rw [hs]
theorem runsL_shut {x : List Nat} {j i : Nat} (h : findL x 91 0 = some j) (hs : shutAt (x.drop (j + 1)) = some i) : runsL x = joinR (headL (x.take j)) (brk ((x.drop (j + 1)).take i)) (runsL ((x.drop (j + 1)).drop (i + 1))) := by
  rw [runsL]; split
  · rename_i h2; rw [h] at h2; cases h2
  · rename_i j2 h2; rw [h] at h2; cases h2; rw [hs]
theorem sl1 (R : List Nat) : Txt.slice ⟨R.toArray⟩ none (some 1) = ⟨(R.take 1).toArray⟩ := by
  cases R with
  | nil => decide +kernel
  | cons c r => exact sl_upto (j := 1) (by simp)
theorem q_bang (y : List Nat) : ((⟨y.toArray⟩ : Str) == Str.ofString "!") = decide (y = [33]) := by
  rw [show Str.ofString "!" = ⟨[33].toArray⟩ by decide +kernel, Bool.eq_iff_iff]
  simp
theorem sl1_bang {R : List Nat} (h : R[0]? = some 33) : (Txt.slice ⟨R.toArray⟩ none (some 1) == Str.ofString "!") = true := by
  rw [sl1, q_bang]
  cases R with
  | nil => cases h
  | cons c r => simp at h ⊢; exact h
theorem sl1_nbang {R : List Nat} (h : R[0]? ≠ some 33) : (Txt.slice ⟨R.toArray⟩ none (some 1) == Str.ofString "!") = false := by
  rw [sl1, q_bang]
  cases R with
  | nil => rfl
  | cons c r => simp at h ⊢; exact h
theorem st_yes {R : List Nat} (h : R[0]? = some 33) : Str.ofString "[^" = ⟨(stL R).toArray⟩ := by unfold stL; rw [if_pos h]; decide +kernel
theorem st_no {R : List Nat} (h : R[0]? ≠ some 33) : Str.ofString "[" = ⟨(stL R).toArray⟩ := by unfold stL; rw [if_neg h]; decide +kernel
theorem told_open : (⟨#[Int.toNat 92]⟩ ++ Str.ofString "[" : Str) = ⟨[92, 91].toArray⟩ := by decide +kernel
noncomputable abbrev ampT : Str := Str.ofString "&|~" ++ ⟨#[Int.toNat 92]⟩
theorem ampT_eq : ampT = ⟨[38, 124, 126, 92].toArray⟩ := by decide +kernel
noncomputable def escX (c : Nat) : List Nat := if [38, 124, 126, 92].contains c then [92, c] else [c]
theorem escX_in {c : Nat} (h : Txt.contains ampT ⟨#[c]⟩ = true) : escX c = [92, c] := by
  rw [ampT_eq, has_one] at h; unfold escX; rw [if_pos h]
theorem escX_out {c : Nat} (h : Txt.contains ampT ⟨#[c]⟩ = false) : escX c = [c] := by
  rw [ampT_eq, has_one] at h; unfold escX; rw [h]; rfl
theorem escA_X {k : Nat} (h : k ≠ 92) : escA k = escX k := by
  unfold escA escX
  have e : isAmp k = [38, 124, 126, 92].contains k := by
    rw [Bool.eq_iff_iff]
    simp [isAmp, h]
    try omega
  rw [e]
theorem escB_eq (y : List Nat) : escB y = y.flatMap escX := by
  unfold escB dblB
  induction y with
  | nil => rfl
  | cons k r ih =>
    rw [List.flatMap_cons, ← ih]
    rw [show PySem.StrLaws.dbl 92 (k :: r) = if k = 92 then k :: k :: PySem.StrLaws.dbl 92 r else k :: PySem.StrLaws.dbl 92 r from rfl]
    split
    · rename_i h; subst h
      show escA 92 ++ (escA 92 ++ escAmp _) = _
      rw [show escA 92 = [92] by decide, show escX 92 = [92, 92] by decide]; rfl
    · rename_i h
      show escA k ++ escAmp _ = _
      rw [escA_X h]
noncomputable def inB (R Y : List Nat) : List Nat := if R[0]? = some 33 then Y.flatMap escX else if Y[0]? = some 91 ∨ Y[0]? = some 94 then 92 :: Y.flatMap escX else Y.flatMap escX
noncomputable def cutY (R : List Nat) (i : Nat) : List Nat := (R.drop (sc0 R)).take (i - sc0 R)
theorem brk_told {R : List Nat} {i : Nat} (hs : shutAt R = some i) : brk (R.take i) = stL R ++ inB R (cutY R i) ++ [93] := by
  obtain ⟨hn, _⟩ := stuff_ne hs
  have hi : 0 < i := by
    rcases Nat.eq_zero_or_pos i with h | h
    · rw [h] at hn; exact absurd rfl hn
    · exact h
  cases R with
  | nil => simp at hn
  | cons c R' =>
    have ht : (c :: R').take i = c :: R'.take (i - 1) := by
      obtain ⟨k, rfl⟩ : ∃ k, i = k + 1 := ⟨i - 1, by omega⟩
      simp
    by_cases h33 : c = 33
    · subst h33
      have hY : cutY (33 :: R') i = R'.take (i - 1) := by unfold cutY sc0; simp
      have hst : stL (33 :: R') = [91, 94] := by unfold stL; simp
      unfold brk inB
      rw [hY, hst, ht, escB_eq, List.flatMap_cons, show escX 33 = [33] by decide]
      simp
    · have hY : cutY (c :: R') i = c :: R'.take (i - 1) := by unfold cutY sc0; simp [h33, ht]
      have hst : stL (c :: R') = [91] := by unfold stL; simp [h33]
      unfold brk inB
      rw [hY, hst, ht, escB_eq, List.flatMap_cons]
      by_cases ha : [38, 124, 126, 92].contains c = true
      · have hx : escX c = [92, c] := by unfold escX; rw [if_pos ha]
        have h1 : c ≠ 91 := by rintro rfl; simp at ha
        have h2 : c ≠ 94 := by rintro rfl; simp at ha
        rw [hx]; simp [h33, h1, h2]
      · have hx : escX c = [c] := by unfold escX; rw [if_neg ha]
        rw [hx]
        by_cases h1 : c = 91
        · subst h1; simp
        · by_cases h2 : c = 94
          · subst h2; simp
          · simp [h33, h1, h2]
theorem cutY_ne {R : List Nat} {i : Nat} (hs : shutAt R = some i) (h : R[0]? ≠ some 33) : ∃ c Y, cutY R i = c :: Y := by
  obtain ⟨hn, _⟩ := stuff_ne hs
  have : cutY R i = R.take i := by unfold cutY sc0; rw [if_neg h]; simp
  rw [this]
  cases e : R.take i with
  | nil => exact absurd e hn
  | cons c Y => exact ⟨c, Y, rfl⟩
section
variable {prog : Program} {w : World} {A : Around} {E : Value → Shared → Prop} {s : Shared} {h₀ : Heap} {L l : Addr} {m : Str → Option Value} {news news' : List (Addr × Obj)}
theorem set_first {vs : List Value} {n : Nat} {u : Tok} {v : Value} {Q : Unit → Shared → Prop} (F : Fr h₀ L s.heap m) (N : News h₀ L s.heap news) (U : Upd l (listOf vs.toArray n) (listOf (v :: vs.tail).toArray n) news news') (hpos : 0 < vs.length) (hz : vs.length ≤ 100000)
    (h : ∀ h', Fr h₀ L h' m → News h₀ L h' news' → Q () { s with heap := h' }) : wpAny (model prog w) A (setItem (.ref l) (.int 0 u) v) Q E s := by
  obtain ⟨pre, post, rfl, rfl, a, b⟩ := U.split
  have z := N (l, listOf vs.toArray n) (List.mem_append.mpr (.inr (.head _)))
  have hs : vs.toArray.size = vs.length := by simp
  refine ki_setAt z.1 (by decide) (by decide) (by omega) (h _ (F.change (Heap.SameBut.update ..) z.2.1 z.2.2) (ki_turn _ N a b ?_ ?_))
  · show vs.toArray.setIfInBounds ((0 : Int)).toNat v = (v :: vs.tail).toArray
    apply Array.toList_inj.mp
    cases vs with
    | nil => simp at hpos
    | cons a r => simp
  · simp; omega
end
theorem st_isbr {R : List Nat} (h : R[0]? ≠ some 33) : ((⟨(stL R).toArray⟩ : Str) == Str.ofString "[") = true := by
  rw [← st_no h]; exact beq_self_eq_true _
theorem st_nbr {R : List Nat} (h : R[0]? = some 33) : ((⟨(stL R).toArray⟩ : Str) == Str.ofString "[") = false := by
  rw [← st_yes h]; decide +kernel
theorem cut_slice {R : List Nat} {i : Nat} (hs : shutAt R = some i) : Txt.slice ⟨R.toArray⟩ (some (((stL R).length : Nat) - 1 : Int)) (some (i : Int)) = ⟨(cutY R i).toArray⟩ := by
  have h1 := shutAt_lt hs
  have h2 := (shutAt_facts hs).1
  have h3 : sc0 R ≤ sc1 R := by unfold sc1; split <;> omega
  rw [stL_len, slice_of (by omega) (by omega) (by omega)]
  unfold cutY
  rw [show (((sc0 R + 1 : Nat) : Int) - 1).toNat = sc0 R by omega, Int.toNat_natCast]
theorem one_q (a b : List Nat) : ((⟨a.toArray⟩ : Str) == ⟨b.toArray⟩) = decide (a = b) := by
  rw [Bool.eq_iff_iff]; simp
theorem any_br {c : Nat} {b : Bool} (h : ([Str.ofString "[", Str.ofString "^"].any fun x => x == stq (escX c)) = b) : decide (c = 91 ∨ c = 94) = b := by
  rw [← h, show Str.ofString "[" = ⟨[91].toArray⟩ by decide +kernel, show Str.ofString "^" = ⟨[94].toArray⟩ by decide +kernel]
  simp only [List.any_cons, List.any_nil, one_q, Bool.or_false]
  rw [Bool.decide_or]
  have key : ∀ d : Nat, d ∉ [38, 124, 126, 92] → (c = d ↔ [d] = escX c) := by
    intro d hd
    unfold escX
    split
    · rename_i hc
      constructor
      · rintro rfl; exact absurd (by simpa using hc) hd
      · intro e; simp at e
    · simp [eq_comm]
  exact congr (congrArg _ (decide_eq_decide.mpr (key 91 (by decide)))) (decide_eq_decide.mpr (key 94 (by decide)))
theorem sum_esc (Y : List Nat) : ((Y.map fun c => stq (escX c)).map (·.length)).sum + (Y.map fun c => stq (escX c)).length ≤ 3 * Y.length := by
  have := sum_le (f := (·.length)) (k := 2) (l := Y.map fun c => stq (escX c)) fun y hy => by
    obtain ⟨c, _, rfl⟩ := List.mem_map.mp hy
    show (escX c).toArray.size ≤ 2
    unfold escX; split <;> simp
  rw [List.length_map] at *
  omega
theorem cat_esc (Y : List Nat) : cat (Y.map fun c => stq (escX c)) = ⟨(Y.flatMap escX).toArray⟩ := by
  unfold cat; rw [List.flatMap_map]
theorem told_in {R : List Nat} {i : Nat} {W : Str} (hs : shutAt R = some i) (hw : W = ⟨(inB R (cutY R i)).toArray⟩) : (⟨(stL R).toArray⟩ ++ W ++ Str.ofString "]" : Str) = ⟨(brk (R.take i)).toArray⟩ := by
  rw [hw, brk_told hs, show Str.ofString "]" = ⟨[93].toArray⟩ by decide +kernel, app_q, app_q]
theorem inB_33 {R Y : List Nat} (h : R[0]? = some 33) : inB R Y = Y.flatMap escX := by unfold inB; rw [if_pos h]
theorem inB_no {R Y : List Nat} {c : Nat} (h : R[0]? ≠ some 33) (hc : ¬ (c = 91 ∨ c = 94)) : inB R (c :: Y) = (c :: Y).flatMap escX := by
  unfold inB; rw [if_neg h, if_neg (by simpa using hc)]
theorem inB_yes {R Y : List Nat} {c : Nat} (h : R[0]? ≠ some 33) (hc : c = 91 ∨ c = 94) : inB R (c :: Y) = 92 :: (c :: Y).flatMap escX := by
  unfold inB; rw [if_neg h, if_pos (by simpa using hc)]
theorem off1_all {D : Addr} {l : List (Addr × Obj)} (h : LCg.Off1 D l) : ∀ p ∈ l, p.1 ≠ D := by
  induction l with
  | nil => intro p hp; cases hp
  | cons q r ih =>
    intro p hp
    cases hp with
    | head => exact h.1
    | tail _ hp => exact ih h.2 p hp
theorem flat_len (Y : List Nat) : (Y.flatMap escX).length ≤ 2 * Y.length := by
  induction Y with
  | nil => simp
  | cons c r ih =>
    rw [List.flatMap_cons, List.length_append, List.length_cons]
    have : (escX c).length ≤ 2 := by unfold escX; split <;> simp
    omega
theorem cat_len2 (Y : List Nat) : (cat (Y.map fun c => stq (escX c))).length ≤ 2 * Y.length := by
  rw [cat_esc]
  have := flat_len Y
  show (Y.flatMap escX).toArray.size ≤ _
  simpa using this
noncomputable abbrev bX (c : Nat) : Str := ⟨#[Int.toNat 92]⟩ ++ stq (escX c)
theorem bX_eq (c : Nat) : bX c = stq (92 :: escX c) := app_q [92] (escX c)
theorem cat_bX (c : Nat) (Y : List Nat) : cat (bX c :: Y.map fun c => stq (escX c)) = ⟨(92 :: (c :: Y).flatMap escX).toArray⟩ := by
  unfold cat
  rw [List.flatMap_cons, bX_eq, List.flatMap_cons, List.flatMap_map]
  congr 1
theorem cat_bX_len (c : Nat) (Y : List Nat) : (cat (bX c :: Y.map fun c => stq (escX c))).length ≤ 2 * Y.length + 3 := by
  rw [cat_bX]
  have := flat_len (c :: Y)
  show (92 :: (c :: Y).flatMap escX).toArray.size ≤ _
  simp only [List.size_toArray, List.length_cons] at this ⊢
  omega
theorem sum_bX (c : Nat) (Y : List Nat) : ((bX c :: Y.map fun c => stq (escX c)).map (·.length)).sum + (bX c :: Y.map fun c => stq (escX c)).length ≤ 3 * Y.length + 4 := by
  have := sum_esc Y
  have h2 : (bX c).length ≤ 3 := by
    rw [bX_eq]; show (92 :: escX c).toArray.size ≤ 3
    unfold escX; split <;> simp
  simp only [List.map_cons, List.sum_cons, List.length_cons]
  omega
theorem in_br {prog : Program} {w : World} {A : Around} {E : Value → Shared → Prop} {s : Shared} {Q : Value → Shared → Prop} {h₀ : Heap} {L a : Addr} {news : List (Addr × Obj)} {c : Nat} {n : Nat} {t t1 t2 : Tok} (b : Bool) (hb : decide (c = 91 ∨ c = 94) = b) (N : News h₀ L s.heap news) (hm : (a, listOf #[.str (Str.ofString "[") t1, .str (Str.ofString "^") t2] n) ∈ news) (h : Q (.bool b) s) :
    wpAny (model prog w) A (compareOp .In (.str (stq (escX c)) t) (.ref a)) Q E s :=
  PyProof.Rows.in_list_strs (news_list (vs := [.str (Str.ofString "[") t1, .str (Str.ofString "^") t2]) N hm) (.cons _ _ (.cons _ _ .nil)) (by
    have : ([Str.ofString "[", Str.ofString "^"].any fun x => x == stq (escX c)) = b := by
      rw [← hb]; exact (any_br (c := c) rfl).symm
    rw [this]; exact h)
theorem news_drop1 {h₀ h : Heap} {L : Addr} {a : Addr × Obj} {l : List (Addr × Obj)} (N : News h₀ L h (a :: l)) : News h₀ L h l := fun p hp => N p (.tail _ hp)
structure HdP (rs : List (List Nat)) (i : Nat) : Prop where
  ne : rs ≠ []
  len : rs.length ≤ i + 1
  sz : ∀ y ∈ rs, y.length ≤ 2 * i
theorem esc_len2 (c : Nat) : (esc c).length ≤ 2 := by unfold esc; split <;> simp
theorem HdP.add {rs : List (List Nat)} {i : Nat} {z : List Nat} (h : HdP rs i) (hz : z.length ≤ 2) : HdP (addL rs z) (i + 1) := by
  unfold addL
  refine ⟨by simp, ?_, ?_⟩
  · have := h.len; simp; omega
  · intro q hq
    rcases List.mem_append.mp hq with hq | hq
    · have := h.sz q (List.dropLast_subset _ hq); omega
    · rw [List.mem_singleton.mp hq, List.length_append]
      cases e : rs.getLast? with
      | none => simp; omega
      | some y =>
        have := h.sz y (List.mem_of_getLast? e)
        simp; omega
theorem HdP.step {rs : List (List Nat)} {i c : Nat} (h : HdP rs i) : HdP (headStep rs c) (i + 1) := by
  unfold headStep
  split
  · refine ⟨by simp, ?_, ?_⟩
    · have := h.len; simp; omega
    · intro q hq
      rcases List.mem_append.mp hq with hq | hq
      · have := h.sz q hq; omega
      · rw [List.mem_singleton.mp hq]; simp
  · split
    · exact h.add (by simp)
    · exact h.add (esc_len2 c)
theorem HdP.all : ∀ (l : List Nat) {rs : List (List Nat)} {i : Nat}, HdP rs i → HdP (l.foldl headStep rs) (i + l.length)
  | [], _, _, h => h
  | c :: r, rs, i, h => by
    have := HdP.all r (h.step (c := c))
    rw [List.foldl_cons, List.length_cons, show i + (r.length + 1) = i + 1 + r.length by omega]
    exact this
theorem headP (l : List Nat) : HdP (headL l) l.length := by
  have := HdP.all l (rs := [[]]) (i := 0) ⟨by simp, by simp, by simp⟩
  rw [Nat.zero_add] at this; exact this
structure RnP (ts : List (List Nat)) (k : Nat) : Prop where
  ne : ts ≠ []
  len : ts.length ≤ k + 1
  sz : ∀ y ∈ ts, y.length ≤ 8 * k
theorem joinP {rs ts : List (List Nat)} {T : List Nat} {i k n : Nat} (h : HdP rs i) (g : RnP ts k) (hT : T.length + 2 * i + 8 * k ≤ 8 * n) (hn : i + k + 1 ≤ n) : RnP (joinR rs T ts) n := by
  unfold joinR
  refine ⟨by simp, ?_, ?_⟩
  · have h1 := h.len
    have h2 := g.len
    simp only [List.length_append, List.length_dropLast, List.length_cons, List.length_nil, List.length_tail]
    have := List.length_pos_iff.mpr g.ne
    omega
  · intro q hq
    rcases List.mem_append.mp hq with hq | hq
    · rcases List.mem_append.mp hq with hq | hq
      · have := h.sz q (List.dropLast_subset _ hq); omega
      · rw [List.mem_singleton.mp hq]
        have h1 : (rs.getLast?.getD []).length ≤ 2 * i := by
          cases e : rs.getLast? with
          | none => simp
          | some y => exact h.sz y (List.mem_of_getLast? e)
        have h2 : (ts.head?.getD []).length ≤ 8 * k := by
          cases e : ts.head? with
          | none => simp
          | some y => exact g.sz y (List.mem_of_head? e)
        simp only [List.length_append]; omega
    · have := g.sz q (List.mem_of_mem_tail hq); omega
theorem runsP : ∀ (n : Nat) (x : List Nat), x.length ≤ n → RnP (runsL x) x.length
  | n, x, hx => by
    cases hf : findL x 91 0 with
    | none =>
      rw [runsL_none hf]
      have := headP x
      exact ⟨this.ne, this.len, fun y hy => by have := this.sz y hy; omega⟩
    | some j =>
      have hj := (List.getElem?_eq_some_iff.mp (findL_some hf).2.1).1
      have hp := headP (x.take j)
      rw [List.length_take, Nat.min_eq_left (Nat.le_of_lt hj)] at hp
      cases n with
      | zero => omega
      | succ n =>
        cases hs : shutAt (x.drop (j + 1)) with
        | none =>
          rw [runsL_open hf hs]
          have g := runsP n (x.drop (j + 1)) (by rw [List.length_drop]; omega)
          rw [List.length_drop] at g
          exact joinP hp g (by simp; omega) (by omega)
        | some i =>
          rw [runsL_shut hf hs]
          have g := runsP n ((x.drop (j + 1)).drop (i + 1)) (by rw [List.length_drop, List.length_drop]; omega)
          have hi := shutAt_lt hs
          rw [List.length_drop, List.length_drop] at g
          rw [List.length_drop] at hi
          have hb := brk_len ((x.drop (j + 1)).take i)
          rw [List.length_take, List.length_drop] at hb
          exact joinP hp g (by omega) (by omega)
theorem pick_init (us : List Value) : slicePick us.toArray none (some (-1)) none = us.dropLast.toArray := by
  rw [kms_pick_eq]
  congr 1
  unfold kms_pick
  simp only [kms_lo, kms_hi]
  rw [List.dropLast_eq_take]
  simp
theorem pick_tail (us : List Value) : slicePick us.toArray (some 1) none none = us.tail.toArray := by
  rw [kms_pick_eq]
  congr 1
  unfold kms_pick
  simp only [kms_lo, kms_hi]
  cases us with
  | nil => rfl
  | cons a r => simp
theorem count_rest {x R2 : List Nat} {j : Nat} (hj : x[j]? = some 91) (hs : R2.Sublist (x.drop (j + 1))) : R2.count 91 + 1 ≤ x.count 91 := by
  have hl := (List.getElem?_eq_some_iff.mp hj).1
  have e : x = x.take j ++ 91 :: x.drop (j + 1) := by
    have h1 := (List.take_append_drop j x).symm
    have h2 : x.drop j = x[j] :: x.drop (j + 1) := List.drop_eq_getElem_cons hl
    have h3 : x[j] = 91 := by rw [List.getElem?_eq_getElem hl] at hj; exact Option.some.inj hj
    rw [h2, h3] at h1; exact h1
  have := hs.count_le 91
  have h4 : x.count 91 = (x.take j).count 91 + ((x.drop (j + 1)).count 91 + 1) := by
    conv => lhs; rw [e]
    rw [List.count_append, List.count_cons_self]
  omega
theorem news_two {h₀ h : Heap} {L : Addr} {a b : Addr × Obj} {u v : List (Addr × Obj)} (N : News h₀ L h (u ++ a :: v)) (hb : b ∈ u) : News h₀ L h (a :: b :: (u ++ v)) := by
  intro p hp
  refine N p ?_
  rcases List.mem_cons.mp hp with rfl | hp
  · exact List.mem_append_right _ (.head _)
  · rcases List.mem_cons.mp hp with rfl | hp
    · exact List.mem_append_left _ hb
    · exact (List.mem_append.mp hp).elim (fun h => List.mem_append_left _ h) fun h => List.mem_append_right _ (.tail _ h)
theorem news_pick5 {h₀ h : Heap} {L : Addr} {a b c d e : Addr × Obj} {r : List (Addr × Obj)} (N : News h₀ L h (a :: b :: c :: d :: e :: r)) : News h₀ L h (e :: a :: r) := by
  intro p hp
  refine N p ?_
  rcases List.mem_cons.mp hp with rfl | hp
  · exact .tail _ (.tail _ (.tail _ (.tail _ (.head _))))
  · rcases List.mem_cons.mp hp with rfl | hp
    · exact .head _
    · exact .tail _ (.tail _ (.tail _ (.tail _ (.tail _ hp))))
theorem news_fin {h₀ h : Heap} {L : Addr} {a b c d : Addr × Obj} {u v : List (Addr × Obj)} (N : News h₀ L h (a :: b :: c :: d :: (u ++ v))) : News h₀ L h ([a] ++ v) := by
  intro p hp
  refine N p ?_
  rcases List.mem_cons.mp hp with rfl | hp
  · exact .head _
  · exact .tail _ (.tail _ (.tail _ (.tail _ (List.mem_append_right _ hp))))
theorem join_strs {us ur2 : List Value} {rs : List (List Nat)} {r2 : List (List Nat)} {y1 TT y2 : List Nat} {t : Tok} (h : StrsAre us (rs.map stq)) (hry : rs.getLast? = some y1) (h2 : StrsAre ur2 (r2.map stq)) :
    StrsAre (us.dropLast ++ [Value.str (stq y1 ++ ⟨TT.toArray⟩ ++ stq y2) t] ++ ur2) ((joinR rs TT (y2 :: r2)).map stq) := by
  unfold joinR
  rw [hry, List.map_append, List.map_append, List.map_dropLast, app_q, app_q]
  exact ((strs_drop h).append' (.cons _ _ .nil)).append' h2
end
section

inductive PassR : Prop
  | on
theorem in_tx {prog : Program} {w : World} {A : Around} {E : Value → Shared → Prop} {s : Shared} {Q : Value → Shared → Prop} {x y : Str} {t u : Tok} (b : Bool) (hb : Txt.contains x y = b) (h : Q (.bool b) s) : wpAny (model prog w) A (compareOp .In (.str y u) (.str x t)) Q E s :=
  PySem.P.in_str (by have := hb; unfold Txt.contains at this; rw [this]; exact h)
theorem lit_eqR {c : Nat} {x : Str} (d : Nat) (b : Bool) (e : x = ⟨#[d]⟩) (h : decide (c = d) = b) : ((⟨#[c]⟩ : Str) == x) = b := by rw [e, one_eq, h]
local macro_rules | `(tactic| walk_at "mine_eq") => `(tactic| first | exact st_isbr (by assumption) | exact st_nbr (by assumption) | exact sl1_bang (by assumption) | exact sl1_nbang (by assumption) | exact tx_ne33 (by assumption) | exact lit_eqR 42 _ (by decide +kernel) (by first | exact decide_eq_true (by assumption) | exact decide_eq_false (by assumption)) | exact lit_eqR 63 _ (by decide +kernel) (by first | exact decide_eq_true (by assumption) | exact decide_eq_false (by assumption)) | exact lit_eqR 91 _ (by decide +kernel) (by first | exact decide_eq_true (by assumption) | exact decide_eq_false (by assumption)) | exact lit_eqR 33 _ (by decide +kernel) (by first | exact decide_eq_true (by assumption) | exact decide_eq_false (by assumption)) | exact lit_eqR 94 _ (by decide +kernel) (by first | exact decide_eq_true (by assumption) | exact decide_eq_false (by assumption)) | exact lit_eqR 93 _ (by decide +kernel) (by first | exact decide_eq_true (by assumption) | exact decide_eq_false (by assumption)))
noncomputable abbrev HS := List Value × List (List Nat) × Nat
noncomputable abbrev RunR (x : List Nat) : Value → List (Addr × Obj) → Prop := fun v tl => ∃ D us k, v = .ref D ∧ (D, listOf (us : List Value).toArray k) ∈ tl ∧ StrsAre us ((runsL x).map stq)
set_option maxHeartbeats 16000000 in
theorem c_runsA (w : World) (x : List Nat) (t : Tok) (hz : x.length ≤ 1000) (hh : 45 ∉ x)
    (ih : ∀ (y : List Nat) (ty : Tok), y.length < x.length → 45 ∉ y → Con w 171 [.str ⟨y.toArray⟩ ty] (fun _ => True) (y.count 91 + 6) (y.count 91 * 100 + 100) (RunR y)) :
    Con w 171 [.str ⟨x.toArray⟩ t] (fun _ => True) (x.count 91 + 6) (x.count 91 * 100 + 100) (RunR x) := by
  intro p loose mean mg mb dp un gd cn cs a ccd cl outer A₀ base h₀ L m news s Q E B F X N T hk hpre hd hu hret
  have hz9 : x.length ≤ 100000 := Nat.le_trans hz (by decide)
  (refine wpAny_call ?_; k_dflt cell_enter; (try dsimp only [bd3, bd6, bd8, bd9, bd12, bd14, bd16, bd17, bd18, bd19, bd20, bd21, bd22, bd23, ar3, ar6, ar8, ar9, ar12, ar14, ar16, ar17, ar18, ar19, ar20, ar21, ar22, ar23, sc3, sc6, sc8, sc9, sc12, sc14, sc16, sc17, sc18, sc19, sc20, sc21, sc22, sc23] at *); (try simp only [List.map_cons, List.map_nil, List.nil_append, List.append_nil, List.cons_append] at *); (refine let_env ?_); intro A1 e1)
  (repeat' (first | (k_unfold; (try dsimp only)) | (k_end; wrow_close) | ((with_reducible show wpAny _ _ (exec (Stmt.Assign (_ :: _) (PySem.Expr.IfExp _ _ _ _) _) _) _ _ _); ((fail_if_success (rename PassR => np9)); refine stopW ?_)) | ((with_reducible show wpAny _ _ (call (Value.builtin "str.find") _ _) _ _ _); (k_dflt (first | refine find_br ?_ | refine find_sh ?_); intro _; (try dsimp only))) | walk1 | (dsimp only; first | ((with_reducible show wpAny _ _ (exec (Stmt.Assign (_ :: _) (PySem.Expr.IfExp _ _ _ _) _) _) _ _ _); ((fail_if_success (rename PassR => np9)); refine stopW ?_)) | ((with_reducible show wpAny _ _ (call (Value.builtin "str.find") _ _) _ _ _); (k_dflt (first | refine find_br ?_ | refine find_sh ?_); intro _; (try dsimp only))) | walk1) | (leave1; walk_say "STEP leave1"; try dsimp only) | fail "no step"))
  unfold StopW
  rename Fr _ _ _ _ => F1
  rename News _ _ _ _ => N1
  obtain ⟨H, hH⟩ : ∃ H, H = match findL x 91 0 with | some j => x.take j | none => x := ⟨_, rfl⟩
  have hHx : ∀ c ∈ H, c ∈ x := by
    intro c hc; rw [hH] at hc; split at hc
    · exact List.mem_of_mem_take hc
    · exact hc
  have hH91 : 91 ∉ H := by
    intro hc; rw [hH] at hc; split at hc
    · rename_i j hf
      obtain ⟨i, hi⟩ := List.mem_iff_getElem?.mp hc
      rw [List.getElem?_take] at hi
      split at hi
      · exact (findL_some hf).2.2 i (Nat.zero_le _) (by assumption) hi
      · cases hi
    · rename_i hf
      obtain ⟨i, hi⟩ := List.mem_iff_getElem?.mp hc
      exact findL_none hf i (Nat.zero_le _) hi
  have hHl : H.length ≤ x.length := by
    rw [hH]; split
    · exact Nat.le_trans (Nat.le_of_eq List.length_take) (Nat.min_le_right _ _)
    · exact Nat.le_refl _
  refine cut_toT (σ := Str × Tok) (fun _ => news) (fun c => [(Str.ofString "head", .str c.1 c.2)]) [] (fun c => c.1 = ⟨H.toArray⟩) F1 ?if1 ?rest1
  case if1 =>
    have hpass : PassR := .on
    cases hf : findL x 91 0 with
    | none =>
      rw [hf] at hH F1
      dsimp only [findV] at F1 hH
      k_steps
      rename News _ _ _ _ => N2
      rename Fr _ _ _ _ => F2
      exact wend (_, _) F2 N2 (fun _ h => h) (by kst_all) (by (intro z9 h29 h39; (with_reducible (repeat (first | exact rfl | refine off_st h39 ?_ | refine off_st0 ?_ | refine off_nil ?_ | refine off_ite (by first | exact h29 _ me0 | exact h29 _ me1 | exact h29 _ me2 | exact h29 _ me3 | exact ne_st h39 me0 | exact ne_st h39 me1 | exact ne_st h39 me2) ?_ | refine off_kst (by first | exact h29 _ me0 | exact h29 _ me1 | exact h29 _ me2 | exact h29 _ me3 | exact ne_st h39 me0 | exact ne_st h39 me1 | exact ne_st h39 me2) ?_))); try exact rfl)) (by rw [hH])
    | some j =>
      rw [hf] at hH F1
      dsimp only [findV] at F1 hH
      k_steps
      rename News _ _ _ _ => N2
      rename Fr _ _ _ _ => F2
      exact wend (_, _) F2 N2 (fun _ h => h) (by kst_all) (by (intro z9 h29 h39; (with_reducible (repeat (first | exact rfl | refine off_st h39 ?_ | refine off_st0 ?_ | refine off_nil ?_ | refine off_ite (by first | exact h29 _ me0 | exact h29 _ me1 | exact h29 _ me2 | exact h29 _ me3 | exact ne_st h39 me0 | exact ne_st h39 me1 | exact ne_st h39 me2) ?_ | refine off_kst (by first | exact h29 _ me0 | exact h29 _ me1 | exact h29 _ me2 | exact h29 _ me3 | exact ne_st h39 me0 | exact ne_st h39 me1 | exact ne_st h39 me2) ?_))); try exact rfl)) (by dsimp only; rw [hH]; exact sl_upto (Nat.le_of_lt (List.getElem?_eq_some_iff.mp (findL_some hf).2.1).1))
  case rest1 =>
    clear F1 N1
    intro c u h tk uq hp F1 N1
    obtain ⟨S1, th⟩ := c
    dsimp only at hp F1 N1 ⊢
    subst hp
    (repeat' (first | (k_unfold; (try dsimp only)) | (k_end; wrow_close) | ((with_reducible show wpAny _ _ (pyIter (Value.str _ _)) _ _ _); (refine stopW ?_)) | ((with_reducible show wpAny _ _ (exec (Stmt.For (PySem.Expr.Name _ _) (PySem.Expr.Name _ _) _ _ _) _) _ _ _); ((rename Fr _ _ _ _ => F'); (refine For_invVF F' (by rfl) (by rfl) ?_))) | walk1 | (dsimp only; first | ((with_reducible show wpAny _ _ (pyIter (Value.str _ _)) _ _ _); (refine stopW ?_)) | ((with_reducible show wpAny _ _ (exec (Stmt.For (PySem.Expr.Name _ _) (PySem.Expr.Name _ _) _ _ _) _) _ _ _); ((rename Fr _ _ _ _ => F'); (refine For_invVF F' (by rfl) (by rfl) ?_))) | walk1) | (leave1; walk_say "STEP leave1"; try dsimp only) | fail "no step"))
    unfold StopW
    rename Fr _ _ _ _ => F2
    rename News _ _ _ _ => N2
    rename_i l _ hlt _
    obtain ⟨M2, F2⟩ := flat_fr F2 [(Str.ofString "pattern", .str ⟨x.toArray⟩ t), (Str.ofString "at", .int (findV (findL x 91 0)) _), (Str.ofString "head", .str ⟨H.toArray⟩ _), (Str.ofString "runs", .ref l)] (by kst_all)
    have hnl : ∀ p ∈ news, p.1 ≠ l := fun p hp => Nat.ne_of_lt (hlt p hp)
    refine KStt.kst_text (σ := HS) (fun c => (l, listOf c.1.toArray c.2.2) :: news) (fun _ => []) (fun _ => True) [] (fun pre c => c.2.1 = headL (natsOf pre) ∧ HdI c.2.1 c.1 pre.length) ([.str (Str.ofString "") _], [[]], 0) rfl F2 N2 trivial (by kst_all) ⟨rfl, ?init⟩ ?turn ?done
    case init =>
      exact ⟨by rw [show Str.ofString "" = ⟨#[]⟩ by decide +kernel]; exact .cons _ _ .nil, by simp, by simp, by simp⟩
    case turn =>
      intro c pre post n tn u h tk own he hoff _ hp F2 N2
      obtain ⟨us, rs, k⟩ := c
      dsimp only at hp F2 N2 ⊢
      obtain ⟨hq, hi⟩ := hp
      simp only [List.cons_append] at N2
      have hus := hi.str
      have hrs := hi.ne
      have hul : 0 < us.length := by rw [hus.length, List.length_map]; exact List.length_pos_iff.mpr hrs
      have hu2 := hi.len
      have hcod : (codes9 H) = pre ++ (n : Int) :: post := he
      have hnx : pre.length < 1000 := by
        have := congrArg List.length hcod
        rw [codes9_eq, List.length_map, List.length_append] at this
        exact Nat.lt_of_lt_of_le (Nat.lt_of_lt_of_eq (Nat.lt_add_of_pos_right (Nat.succ_pos post.length)) this.symm) (Nat.le_trans hHl hz)
      have huz : us.length ≤ 100000 := Nat.le_trans hu2 (Nat.le_trans hnx (by decide))
      have hnH : n ∈ H := codes9_mem hcod
      have hn91 : n ≠ 91 := fun e => hH91 (e ▸ hnH)
      have hn45 : n ≠ 45 := fun e => hh (hHx n hnH |> fun q => e ▸ q)
      have hall : ∀ p ∈ news ++ own, p.1 ≠ l := fun p hp => (List.mem_append.mp hp).elim (hnl p) fun h => hoff p h l (.head _)
      obtain ⟨y, uy, hlast, hry⟩ := hi.last
      have hyl : (stq y).length ≤ 4000 := by
        have := hi.sz y (List.mem_of_getLast? hry)
        exact Nat.le_trans this (Nat.le_trans (Nat.mul_le_mul_left 2 (Nat.le_of_lt hnx)) (by decide))
      refine q_abs ?_
      intro q9 hq9
      --A<
      by_cases h42 : n = 42
      · (repeat' (first | (k_unfold; (try dsimp only)) | (k_end; wrow_close) | (((with_reducible show wpAny _ _ (call (Value.builtin "list.append") _ _) _ _ _); (k_dflt (refine' append_K (by k_asm) (by k_asm) (by walk_at "mine_upd") ?_ (by first | exact om24 (b := 2000) (by assumption) (by decide) | exact om24 (b := 1000) (by assumption) (by decide) | walk_at "mine_sz")); intro _ _ N9; (try dsimp only); (try simp only [List.push_toArray] at N9))); (revert N9; intro _)) | walk1 | (dsimp only; first | (((with_reducible show wpAny _ _ (call (Value.builtin "list.append") _ _) _ _ _); (k_dflt (refine' append_K (by k_asm) (by k_asm) (by walk_at "mine_upd") ?_ (by first | exact om24 (b := 2000) (by assumption) (by decide) | exact om24 (b := 1000) (by assumption) (by decide) | walk_at "mine_sz")); intro _ _ N9; (try dsimp only); (try simp only [List.push_toArray] at N9))); (revert N9; intro _)) | walk1) | (leave1; walk_say "STEP leave1"; try dsimp only) | fail "no step"))
        rename News _ _ _ _ => N3
        rename Fr _ _ _ _ => F3
        refine hq9 _ _ ?_
        exact kst_end (us ++ [.str (Str.ofString "") _], rs ++ [[]], k + 1) F3 N3 (fun _ h => led1_in h) (fun _ h => own1_in h) rfl trivial (by kst_all) (by (intro z9 h19 h29 h39; (with_reducible (repeat (first | exact rfl | refine off_st h39 ?_ | refine off_st0 ?_ | refine off_nil ?_ | refine off_ite (by first | exact h19 | exact h29 _ me0 | exact h29 _ me1 | exact h29 _ me2 | exact h29 _ me3 | exact ne_st h39 me0 | exact ne_st h39 me1 | exact ne_st h39 me2) ?_ | refine off_kst (by first | exact h19 | exact h29 _ me0 | exact h29 _ me1 | exact h29 _ me2 | exact h29 _ me3 | exact ne_st h39 me0 | exact ne_st h39 me1 | exact ne_st h39 me2) ?_))); try exact rfl)) ⟨by rw [natsOf_snoc, headL_snoc, ← hq]; dsimp only; unfold headStep; rw [if_pos h42], by rw [List.length_append]; exact hi.star⟩
      · by_cases h63 : n = 63
        · (repeat' (first | (k_unfold; (try dsimp only)) | (k_end; wrow_close) | ((with_reducible show wpAny _ _ (setItem (Value.ref _) (Value.int (-1) _) _) _ _ _); k_dflt (refine' set_last (by k_asm) (by k_asm) (by walk_at "mine_upd") (by assumption) (by first | assumption | omega) ?_); intro _ _ _; (try dsimp only)) | ((with_reducible show wpAny _ _ (getItem (Value.ref _) (Value.int _ _)) _ _ _); (k_dflt (refine' get_last (by k_asm) (by walk_at "mine_mem") (by assumption) ?_); (try dsimp only))) | walk1 | (dsimp only; first | ((with_reducible show wpAny _ _ (setItem (Value.ref _) (Value.int (-1) _) _) _ _ _); k_dflt (refine' set_last (by k_asm) (by k_asm) (by walk_at "mine_upd") (by assumption) (by first | assumption | omega) ?_); intro _ _ _; (try dsimp only)) | ((with_reducible show wpAny _ _ (getItem (Value.ref _) (Value.int _ _)) _ _ _); (k_dflt (refine' get_last (by k_asm) (by walk_at "mine_mem") (by assumption) ?_); (try dsimp only))) | walk1) | (leave1; walk_say "STEP leave1"; try dsimp only) | fail "no step"))
          rename News _ _ _ _ => N3
          rename Fr _ _ _ _ => F3
          refine hq9 _ _ ?_
          exact kst_end (us.dropLast ++ [.str _ _], addL rs [46], k) F3 N3 (fun _ h => led1_in h) (fun _ h => own1_in h) rfl trivial (by kst_all) (by (intro z9 h19 h29 h39; (with_reducible (repeat (first | exact rfl | refine off_st h39 ?_ | refine off_st0 ?_ | refine off_nil ?_ | refine off_ite (by first | exact h19 | exact h29 _ me0 | exact h29 _ me1 | exact h29 _ me2 | exact h29 _ me3 | exact ne_st h39 me0 | exact ne_st h39 me1 | exact ne_st h39 me2) ?_ | refine off_kst (by first | exact h19 | exact h29 _ me0 | exact h29 _ me1 | exact h29 _ me2 | exact h29 _ me3 | exact ne_st h39 me0 | exact ne_st h39 me1 | exact ne_st h39 me2) ?_))); try exact rfl)) ⟨by rw [natsOf_snoc, headL_snoc, ← hq]; dsimp only; unfold headStep; rw [if_neg h42, if_pos h63], by rw [List.length_append]; exact hi.add hry (by rw [show Str.ofString "." = ⟨[46].toArray⟩ by decide +kernel, app_q]) (by simp)⟩
        · by_cases h9 : 9 ≤ n ∧ n ≤ 13
          · have h9a : 9 ≤ (n : Int) := Int.ofNat_le.mpr h9.1
            have h9b : (n : Int) ≤ 13 := Int.ofNat_le.mpr h9.2
            (repeat' (first | (k_unfold; (try dsimp only)) | (k_end; wrow_close) | ((with_reducible show wpAny _ _ (setItem (Value.ref _) (Value.int (-1) _) _) _ _ _); k_dflt (refine' set_last (by k_asm) (by k_asm) (by walk_at "mine_upd") (by assumption) (by first | assumption | omega) ?_); intro _ _ _; (try dsimp only)) | ((with_reducible show wpAny _ _ (getItem (Value.ref _) (Value.int _ _)) _ _ _); (k_dflt (refine' get_last (by k_asm) (by walk_at "mine_mem") (by assumption) ?_); (try dsimp only))) | walk1 | (dsimp only; first | ((with_reducible show wpAny _ _ (setItem (Value.ref _) (Value.int (-1) _) _) _ _ _); k_dflt (refine' set_last (by k_asm) (by k_asm) (by walk_at "mine_upd") (by assumption) (by first | assumption | omega) ?_); intro _ _ _; (try dsimp only)) | ((with_reducible show wpAny _ _ (getItem (Value.ref _) (Value.int _ _)) _ _ _); (k_dflt (refine' get_last (by k_asm) (by walk_at "mine_mem") (by assumption) ?_); (try dsimp only))) | walk1) | (leave1; walk_say "STEP leave1"; try dsimp only) | fail "no step"))
            rename News _ _ _ _ => N3
            rename Fr _ _ _ _ => F3
            refine hq9 _ _ ?_
            exact kst_end (us.dropLast ++ [.str _ _], addL rs (esc n), k) F3 N3 (fun _ h => led1_in h) (fun _ h => own1_in h) rfl trivial (by kst_all) (by (intro z9 h19 h29 h39; (with_reducible (repeat (first | exact rfl | refine off_st h39 ?_ | refine off_st0 ?_ | refine off_nil ?_ | refine off_ite (by first | exact h19 | exact h29 _ me0 | exact h29 _ me1 | exact h29 _ me2 | exact h29 _ me3 | exact ne_st h39 me0 | exact ne_st h39 me1 | exact ne_st h39 me2) ?_ | refine off_kst (by first | exact h19 | exact h29 _ me0 | exact h29 _ me1 | exact h29 _ me2 | exact h29 _ me3 | exact ne_st h39 me0 | exact ne_st h39 me1 | exact ne_st h39 me2) ?_))); try exact rfl)) ⟨by rw [natsOf_snoc, headL_snoc, ← hq]; dsimp only; unfold headStep; rw [if_neg h42, if_neg h63], by rw [List.length_append]; exact hi.add hry (by rw [esc_ctl h9.1 h9.2]; exact sp_app y n) (by rw [esc_ctl h9.1 h9.2]; simp)⟩
          · cases hin : Txt.contains spT ⟨#[n]⟩ with
            | true =>
              by_cases h9a : 9 ≤ n
              · have h9c : 9 ≤ (n : Int) := Int.ofNat_le.mpr h9a
                have h9b : ¬ (n : Int) ≤ 13 := fun e => h9 ⟨h9a, Int.ofNat_le.mp e⟩
                (repeat' (first | (k_unfold; (try dsimp only)) | (k_end; wrow_close) | ((with_reducible show wpAny _ _ (compareOp PySem.CmpOp.In (Value.str _ _) (Value.str _ _)) _ _ _); (k_dflt (first | (refine' in_tx true (by assumption) ?_) | (refine' in_tx false (by assumption) ?_)))) | ((with_reducible show wpAny _ _ (setItem (Value.ref _) (Value.int (-1) _) _) _ _ _); k_dflt (refine' set_last (by k_asm) (by k_asm) (by walk_at "mine_upd") (by assumption) (by first | assumption | omega) ?_); intro _ _ _; (try dsimp only)) | ((with_reducible show wpAny _ _ (getItem (Value.ref _) (Value.int _ _)) _ _ _); (k_dflt (refine' get_last (by k_asm) (by walk_at "mine_mem") (by assumption) ?_); (try dsimp only))) | walk1 | (dsimp only; first | ((with_reducible show wpAny _ _ (compareOp PySem.CmpOp.In (Value.str _ _) (Value.str _ _)) _ _ _); (k_dflt (first | (refine' in_tx true (by assumption) ?_) | (refine' in_tx false (by assumption) ?_)))) | ((with_reducible show wpAny _ _ (setItem (Value.ref _) (Value.int (-1) _) _) _ _ _); k_dflt (refine' set_last (by k_asm) (by k_asm) (by walk_at "mine_upd") (by assumption) (by first | assumption | omega) ?_); intro _ _ _; (try dsimp only)) | ((with_reducible show wpAny _ _ (getItem (Value.ref _) (Value.int _ _)) _ _ _); (k_dflt (refine' get_last (by k_asm) (by walk_at "mine_mem") (by assumption) ?_); (try dsimp only))) | walk1) | (leave1; walk_say "STEP leave1"; try dsimp only) | fail "no step"))
                rename News _ _ _ _ => N3
                rename Fr _ _ _ _ => F3
                refine hq9 _ _ ?_
                exact kst_end (us.dropLast ++ [.str _ _], addL rs (esc n), k) F3 N3 (fun _ h => led1_in h) (fun _ h => own1_in h) rfl trivial (by kst_all) (by (intro z9 h19 h29 h39; (with_reducible (repeat (first | exact rfl | refine off_st h39 ?_ | refine off_st0 ?_ | refine off_nil ?_ | refine off_ite (by first | exact h19 | exact h29 _ me0 | exact h29 _ me1 | exact h29 _ me2 | exact h29 _ me3 | exact ne_st h39 me0 | exact ne_st h39 me1 | exact ne_st h39 me2) ?_ | refine off_kst (by first | exact h19 | exact h29 _ me0 | exact h29 _ me1 | exact h29 _ me2 | exact h29 _ me3 | exact ne_st h39 me0 | exact ne_st h39 me1 | exact ne_st h39 me2) ?_))); try exact rfl)) ⟨by rw [natsOf_snoc, headL_snoc, ← hq]; dsimp only; unfold headStep; rw [if_neg h42, if_neg h63], by rw [List.length_append]; exact hi.add hry (by rw [esc_in hin]; exact sp_app y n) (by rw [esc_in hin]; simp)⟩
              · have h9c : ¬ 9 ≤ (n : Int) := fun e => h9a (Int.ofNat_le.mp e)
                (repeat' (first | (k_unfold; (try dsimp only)) | (k_end; wrow_close) | ((with_reducible show wpAny _ _ (compareOp PySem.CmpOp.In (Value.str _ _) (Value.str _ _)) _ _ _); (k_dflt (first | (refine' in_tx true (by assumption) ?_) | (refine' in_tx false (by assumption) ?_)))) | ((with_reducible show wpAny _ _ (setItem (Value.ref _) (Value.int (-1) _) _) _ _ _); k_dflt (refine' set_last (by k_asm) (by k_asm) (by walk_at "mine_upd") (by assumption) (by first | assumption | omega) ?_); intro _ _ _; (try dsimp only)) | ((with_reducible show wpAny _ _ (getItem (Value.ref _) (Value.int _ _)) _ _ _); (k_dflt (refine' get_last (by k_asm) (by walk_at "mine_mem") (by assumption) ?_); (try dsimp only))) | walk1 | (dsimp only; first | ((with_reducible show wpAny _ _ (compareOp PySem.CmpOp.In (Value.str _ _) (Value.str _ _)) _ _ _); (k_dflt (first | (refine' in_tx true (by assumption) ?_) | (refine' in_tx false (by assumption) ?_)))) | ((with_reducible show wpAny _ _ (setItem (Value.ref _) (Value.int (-1) _) _) _ _ _); k_dflt (refine' set_last (by k_asm) (by k_asm) (by walk_at "mine_upd") (by assumption) (by first | assumption | omega) ?_); intro _ _ _; (try dsimp only)) | ((with_reducible show wpAny _ _ (getItem (Value.ref _) (Value.int _ _)) _ _ _); (k_dflt (refine' get_last (by k_asm) (by walk_at "mine_mem") (by assumption) ?_); (try dsimp only))) | walk1) | (leave1; walk_say "STEP leave1"; try dsimp only) | fail "no step"))
                rename News _ _ _ _ => N3
                rename Fr _ _ _ _ => F3
                refine hq9 _ _ ?_
                exact kst_end (us.dropLast ++ [.str _ _], addL rs (esc n), k) F3 N3 (fun _ h => led1_in h) (fun _ h => own1_in h) rfl trivial (by kst_all) (by (intro z9 h19 h29 h39; (with_reducible (repeat (first | exact rfl | refine off_st h39 ?_ | refine off_st0 ?_ | refine off_nil ?_ | refine off_ite (by first | exact h19 | exact h29 _ me0 | exact h29 _ me1 | exact h29 _ me2 | exact h29 _ me3 | exact ne_st h39 me0 | exact ne_st h39 me1 | exact ne_st h39 me2) ?_ | refine off_kst (by first | exact h19 | exact h29 _ me0 | exact h29 _ me1 | exact h29 _ me2 | exact h29 _ me3 | exact ne_st h39 me0 | exact ne_st h39 me1 | exact ne_st h39 me2) ?_))); try exact rfl)) ⟨by rw [natsOf_snoc, headL_snoc, ← hq]; dsimp only; unfold headStep; rw [if_neg h42, if_neg h63], by rw [List.length_append]; exact hi.add hry (by rw [esc_in hin]; exact sp_app y n) (by rw [esc_in hin]; simp)⟩
            | false =>
              have he1 := esc_out h9 hin h42 h63 hn91 hn45
              by_cases h9a : 9 ≤ n
              · have h9c : 9 ≤ (n : Int) := Int.ofNat_le.mpr h9a
                have h9b : ¬ (n : Int) ≤ 13 := fun e => h9 ⟨h9a, Int.ofNat_le.mp e⟩
                (repeat' (first | (k_unfold; (try dsimp only)) | (k_end; wrow_close) | ((with_reducible show wpAny _ _ (compareOp PySem.CmpOp.In (Value.str _ _) (Value.str _ _)) _ _ _); (k_dflt (first | (refine' in_tx true (by assumption) ?_) | (refine' in_tx false (by assumption) ?_)))) | ((with_reducible show wpAny _ _ (setItem (Value.ref _) (Value.int (-1) _) _) _ _ _); k_dflt (refine' set_last (by k_asm) (by k_asm) (by walk_at "mine_upd") (by assumption) (by first | assumption | omega) ?_); intro _ _ _; (try dsimp only)) | ((with_reducible show wpAny _ _ (getItem (Value.ref _) (Value.int _ _)) _ _ _); (k_dflt (refine' get_last (by k_asm) (by walk_at "mine_mem") (by assumption) ?_); (try dsimp only))) | walk1 | (dsimp only; first | ((with_reducible show wpAny _ _ (compareOp PySem.CmpOp.In (Value.str _ _) (Value.str _ _)) _ _ _); (k_dflt (first | (refine' in_tx true (by assumption) ?_) | (refine' in_tx false (by assumption) ?_)))) | ((with_reducible show wpAny _ _ (setItem (Value.ref _) (Value.int (-1) _) _) _ _ _); k_dflt (refine' set_last (by k_asm) (by k_asm) (by walk_at "mine_upd") (by assumption) (by first | assumption | omega) ?_); intro _ _ _; (try dsimp only)) | ((with_reducible show wpAny _ _ (getItem (Value.ref _) (Value.int _ _)) _ _ _); (k_dflt (refine' get_last (by k_asm) (by walk_at "mine_mem") (by assumption) ?_); (try dsimp only))) | walk1) | (leave1; walk_say "STEP leave1"; try dsimp only) | fail "no step"))
                rename News _ _ _ _ => N3
                rename Fr _ _ _ _ => F3
                refine hq9 _ _ ?_
                exact kst_end (us.dropLast ++ [.str _ _], addL rs (esc n), k) F3 N3 (fun _ h => led1_in h) (fun _ h => own1_in h) rfl trivial (by kst_all) (by (intro z9 h19 h29 h39; (with_reducible (repeat (first | exact rfl | refine off_st h39 ?_ | refine off_st0 ?_ | refine off_nil ?_ | refine off_ite (by first | exact h19 | exact h29 _ me0 | exact h29 _ me1 | exact h29 _ me2 | exact h29 _ me3 | exact ne_st h39 me0 | exact ne_st h39 me1 | exact ne_st h39 me2) ?_ | refine off_kst (by first | exact h19 | exact h29 _ me0 | exact h29 _ me1 | exact h29 _ me2 | exact h29 _ me3 | exact ne_st h39 me0 | exact ne_st h39 me1 | exact ne_st h39 me2) ?_))); try exact rfl)) ⟨by rw [natsOf_snoc, headL_snoc, ← hq]; dsimp only; unfold headStep; rw [if_neg h42, if_neg h63], by rw [List.length_append]; exact hi.add hry (by rw [he1]; exact app_q y [n]) (by rw [he1]; simp)⟩
              · have h9c : ¬ 9 ≤ (n : Int) := fun e => h9a (Int.ofNat_le.mp e)
                (repeat' (first | (k_unfold; (try dsimp only)) | (k_end; wrow_close) | ((with_reducible show wpAny _ _ (compareOp PySem.CmpOp.In (Value.str _ _) (Value.str _ _)) _ _ _); (k_dflt (first | (refine' in_tx true (by assumption) ?_) | (refine' in_tx false (by assumption) ?_)))) | ((with_reducible show wpAny _ _ (setItem (Value.ref _) (Value.int (-1) _) _) _ _ _); k_dflt (refine' set_last (by k_asm) (by k_asm) (by walk_at "mine_upd") (by assumption) (by first | assumption | omega) ?_); intro _ _ _; (try dsimp only)) | ((with_reducible show wpAny _ _ (getItem (Value.ref _) (Value.int _ _)) _ _ _); (k_dflt (refine' get_last (by k_asm) (by walk_at "mine_mem") (by assumption) ?_); (try dsimp only))) | walk1 | (dsimp only; first | ((with_reducible show wpAny _ _ (compareOp PySem.CmpOp.In (Value.str _ _) (Value.str _ _)) _ _ _); (k_dflt (first | (refine' in_tx true (by assumption) ?_) | (refine' in_tx false (by assumption) ?_)))) | ((with_reducible show wpAny _ _ (setItem (Value.ref _) (Value.int (-1) _) _) _ _ _); k_dflt (refine' set_last (by k_asm) (by k_asm) (by walk_at "mine_upd") (by assumption) (by first | assumption | omega) ?_); intro _ _ _; (try dsimp only)) | ((with_reducible show wpAny _ _ (getItem (Value.ref _) (Value.int _ _)) _ _ _); (k_dflt (refine' get_last (by k_asm) (by walk_at "mine_mem") (by assumption) ?_); (try dsimp only))) | walk1) | (leave1; walk_say "STEP leave1"; try dsimp only) | fail "no step"))
                rename News _ _ _ _ => N3
                rename Fr _ _ _ _ => F3
                refine hq9 _ _ ?_
                exact kst_end (us.dropLast ++ [.str _ _], addL rs (esc n), k) F3 N3 (fun _ h => led1_in h) (fun _ h => own1_in h) rfl trivial (by kst_all) (by (intro z9 h19 h29 h39; (with_reducible (repeat (first | exact rfl | refine off_st h39 ?_ | refine off_st0 ?_ | refine off_nil ?_ | refine off_ite (by first | exact h19 | exact h29 _ me0 | exact h29 _ me1 | exact h29 _ me2 | exact h29 _ me3 | exact ne_st h39 me0 | exact ne_st h39 me1 | exact ne_st h39 me2) ?_ | refine off_kst (by first | exact h19 | exact h29 _ me0 | exact h29 _ me1 | exact h29 _ me2 | exact h29 _ me3 | exact ne_st h39 me0 | exact ne_st h39 me1 | exact ne_st h39 me2) ?_))); try exact rfl)) ⟨by rw [natsOf_snoc, headL_snoc, ← hq]; dsimp only; unfold headStep; rw [if_neg h42, if_neg h63], by rw [List.length_append]; exact hi.add hry (by rw [he1]; exact app_q y [n]) (by rw [he1]; simp)⟩
      --A>
    case done =>
      intro c u h tk _ hp F2 N2
      obtain ⟨us, rs, k⟩ := c
      dsimp only at hp F2 N2 ⊢
      obtain ⟨hq, hi⟩ := hp
      rw [natsOf_codes] at hq
      have hus := hi.str
      have hcl : (KStt.codes (⟨H.toArray⟩ : Str)).length = H.length := by rw [KStt.codes_length]; simp [PySem.Str.length]
      rw [hcl] at hi
      have hu2 := hi.len
      cases hf : findL x 91 0 with
      | none =>
        rw [hf] at F2 hH
        dsimp only [findV] at F2 hH
        subst hH
        k_steps
        rename Fr h₀ L _ m => Ff
        rename News h₀ L _ ((l, listOf us.toArray k) :: _) => Nf
        refine hret (.ref l) [(l, listOf us.toArray k)] _ _ ⟨l, us, k, rfl, .head _, ?_⟩ ?_ Ff Nf
        · rw [runsL_none hf, ← hq]; exact hus
        · intro a ha p hp
          rw [List.mem_singleton.mp hp]; exact hlt a ha
      | some j =>
        rw [hf] at F2 hH
        dsimp only [findV] at F2 hH
        have hjx : j < x.length := (List.getElem?_eq_some_iff.mp (findL_some hf).2.1).1
        obtain ⟨R, hR⟩ : ∃ R, R = x.drop (j + 1) := ⟨_, rfl⟩
        have hRl : R.length ≤ 1000 := by rw [hR, List.length_drop]; exact Nat.le_trans (Nat.sub_le _ _) hz
        have hRz : R.length ≤ 100000 := Nat.le_trans hRl (by decide)
        (repeat' (first | (k_unfold; (try dsimp only)) | (k_end; wrow_close) | ((with_reducible show wpAny _ _ (exec (Stmt.Assign (_ :: _) (PySem.Expr.IfExp _ _ _ _) _) _) _ _ _); ((fail_if_success (rename PassR => np9)); refine stopW ?_)) | walk1 | (dsimp only; first | ((with_reducible show wpAny _ _ (exec (Stmt.Assign (_ :: _) (PySem.Expr.IfExp _ _ _ _) _) _) _ _ _); ((fail_if_success (rename PassR => np9)); refine stopW ?_)) | walk1) | (leave1; walk_say "STEP leave1"; try dsimp only) | fail "no step"))
        unfold StopW
        rename Fr _ _ _ _ => F9
        rename News _ _ _ _ => N9
        have e1 : Txt.slice ⟨x.toArray⟩ (some ((j : Int) + 1)) none = ⟨R.toArray⟩ := by
          rw [slice_tail (om1 j) (om18 hjx), show ((j : Int) + 1).toNat = j + 1 from rfl, ← hR]
        rw [e1] at F9
        obtain ⟨M9, F9⟩ := flat_fr F9 [(Str.ofString "rest", .str ⟨R.toArray⟩ _), (Str.ofString "runs", .ref l)] (by kst_all)
        refine cut_toT (σ := Str × Tok × Tok) (fun _ => (l, listOf us.toArray k) :: news) (fun c => [(Str.ofString "rest", .str ⟨R.toArray⟩ c.2.1), (Str.ofString "start", .str c.1 c.2.2)]) [] (fun c => c.1 = ⟨(stL R).toArray⟩) F9 ?if2 ?rest2
        case if2 =>
          refine q_abs ?_
          intro q9 hq9
          have hpass : PassR := .on
          by_cases h33 : R[0]? = some 33
          · (repeat' (first | (k_unfold; (try dsimp only)) | (k_end; wrow_close) | ((with_reducible show wpAny _ _ (compareOp PySem.CmpOp.Eq (Value.str _ _) (Value.str _ _)) _ _ _); (k_dflt (first | (refine' eq_tx true (by walk_at "mine_eq") ?_) | (refine' eq_tx false (by walk_at "mine_eq") ?_)))) | walk1 | (dsimp only; first | ((with_reducible show wpAny _ _ (compareOp PySem.CmpOp.Eq (Value.str _ _) (Value.str _ _)) _ _ _); (k_dflt (first | (refine' eq_tx true (by walk_at "mine_eq") ?_) | (refine' eq_tx false (by walk_at "mine_eq") ?_)))) | walk1) | (leave1; walk_say "STEP leave1"; try dsimp only) | fail "no step"))
            rename News _ _ _ _ => N4
            rename Fr _ _ _ _ => F4
            refine hq9 _ _ ?_
            exact wend (_, _, _) F4 N4 (fun _ h => h) (by kst_all) (by (intro z9 h29 h39; (with_reducible (repeat (first | exact rfl | refine off_st h39 ?_ | refine off_st0 ?_ | refine off_nil ?_ | refine off_ite (by first | exact h29 _ me0 | exact h29 _ me1 | exact h29 _ me2 | exact h29 _ me3 | exact ne_st h39 me0 | exact ne_st h39 me1 | exact ne_st h39 me2) ?_ | refine off_kst (by first | exact h29 _ me0 | exact h29 _ me1 | exact h29 _ me2 | exact h29 _ me3 | exact ne_st h39 me0 | exact ne_st h39 me1 | exact ne_st h39 me2) ?_))); try exact rfl)) (st_yes h33)
          · (repeat' (first | (k_unfold; (try dsimp only)) | (k_end; wrow_close) | ((with_reducible show wpAny _ _ (compareOp PySem.CmpOp.Eq (Value.str _ _) (Value.str _ _)) _ _ _); (k_dflt (first | (refine' eq_tx true (by walk_at "mine_eq") ?_) | (refine' eq_tx false (by walk_at "mine_eq") ?_)))) | walk1 | (dsimp only; first | ((with_reducible show wpAny _ _ (compareOp PySem.CmpOp.Eq (Value.str _ _) (Value.str _ _)) _ _ _); (k_dflt (first | (refine' eq_tx true (by walk_at "mine_eq") ?_) | (refine' eq_tx false (by walk_at "mine_eq") ?_)))) | walk1) | (leave1; walk_say "STEP leave1"; try dsimp only) | fail "no step"))
            rename News _ _ _ _ => N4
            rename Fr _ _ _ _ => F4
            refine hq9 _ _ ?_
            exact wend (_, _, _) F4 N4 (fun _ h => h) (by kst_all) (by (intro z9 h29 h39; (with_reducible (repeat (first | exact rfl | refine off_st h39 ?_ | refine off_st0 ?_ | refine off_nil ?_ | refine off_ite (by first | exact h29 _ me0 | exact h29 _ me1 | exact h29 _ me2 | exact h29 _ me3 | exact ne_st h39 me0 | exact ne_st h39 me1 | exact ne_st h39 me2) ?_ | refine off_kst (by first | exact h29 _ me0 | exact h29 _ me1 | exact h29 _ me2 | exact h29 _ me3 | exact ne_st h39 me0 | exact ne_st h39 me1 | exact ne_st h39 me2) ?_))); try exact rfl)) (st_no h33)
        case rest2 =>
          clear F9 N9
          intro c u h tk uq hp F3 N3
          obtain ⟨S1, t1, t2⟩ := c
          dsimp only at hp F3 N3 ⊢
          subst hp
          have hsl : (stL R).length ≤ 2 := by rw [stL_len]; unfold sc0; split <;> decide
          have hsz9 : (stL R).length ≤ 100000 := Nat.le_trans hsl (by decide)
          (repeat' (first | (k_unfold; (try dsimp only)) | (k_end; wrow_close) | ((fail_if_success (rename PassR => np9)); (with_reducible show wpAny _ _ (exec (Stmt.If (PySem.Expr.Compare _ [CmpOp.GtE] _ _) _ _ _) _) _ _ _); refine stopW ?_) | ((with_reducible show wpAny _ _ (call (Value.builtin "len") _ _) _ _ _); (k_dflt (refine' len_tx (by first | assumption | omega) ?_); (try dsimp only))) | ((with_reducible show wpAny _ _ (call (Value.builtin "str.find") _ _) _ _ _); (k_dflt (first | refine find_br ?_ | refine find_sh ?_); intro _; (try dsimp only))) | walk1 | (dsimp only; first | ((fail_if_success (rename PassR => np9)); (with_reducible show wpAny _ _ (exec (Stmt.If (PySem.Expr.Compare _ [CmpOp.GtE] _ _) _ _ _) _) _ _ _); refine stopW ?_) | ((with_reducible show wpAny _ _ (call (Value.builtin "len") _ _) _ _ _); (k_dflt (refine' len_tx (by first | assumption | omega) ?_); (try dsimp only))) | ((with_reducible show wpAny _ _ (call (Value.builtin "str.find") _ _) _ _ _); (k_dflt (first | refine find_br ?_ | refine find_sh ?_); intro _; (try dsimp only))) | walk1) | (leave1; walk_say "STEP leave1"; try dsimp only) | fail "no step"))
          unfold StopW
          rename Fr _ _ _ _ => F9
          rename News _ _ _ _ => N9
          rw [← shutAt_find] at F9
          first | rw [show Str.ofString "\\[" = ⟨[92, 91].toArray⟩ by decide +kernel] at F9 | rw [show ((⟨#[Int.toNat 92]⟩ : Str) ++ Str.ofString "[" : Str) = ⟨[92, 91].toArray⟩ by decide +kernel] at F9
          obtain ⟨R2, TT, hRT, hrl⟩ : ∃ R2 TT, (R2, TT) = (match shutAt R with | none => (R, [92, 91]) | some i => (R.drop (i + 1), brk (R.take i))) ∧ runsL x = joinR (headL H) TT (runsL R2) := by
            cases hs : shutAt R with
            | none => exact ⟨_, _, rfl, by rw [runsL_open hf (hR ▸ hs), ← hR, ← hH]⟩
            | some i => exact ⟨_, _, rfl, by rw [runsL_shut hf (hR ▸ hs), ← hR, ← hH]⟩
          obtain ⟨M9, F9⟩ := flat_fr F9 [(Str.ofString "rest", .str ⟨R.toArray⟩ _), (Str.ofString "runs", .ref l), (Str.ofString "start", .str ⟨(stL R).toArray⟩ _), (Str.ofString "shut", .int (findV (shutAt R)) _), (Str.ofString "told", .str ⟨[92, 91].toArray⟩ _)] (by kst_all)
          refine cut_toT (σ := Str × Str × Tok × Tok) (fun _ => (l, listOf us.toArray k) :: news) (fun c => [(Str.ofString "rest", .str c.1 c.2.2.1), (Str.ofString "told", .str c.2.1 c.2.2.2)]) [Str.ofString "signs"] (fun c => c.1 = ⟨R2.toArray⟩ ∧ c.2.1 = ⟨TT.toArray⟩) F9 ?if3 ?rest3
          case if3 =>
            have hpass : PassR := .on
            cases hs : shutAt R with
            | none =>
              rw [hs] at F9 hRT
              dsimp only [findV] at F9 hRT ⊢
              cases hRT
              k_steps
              rename News _ _ _ _ => N4
              rename Fr _ _ _ _ => F4
              exact wend (_, _, _, _) F4 N4 (fun _ h => h) (by kst_all) (by (intro z9 h29 h39; (with_reducible (repeat (first | exact rfl | refine off_st h39 ?_ | refine off_st0 ?_ | refine off_nil ?_ | refine off_ite (by first | exact h29 _ me0 | exact h29 _ me1 | exact h29 _ me2 | exact h29 _ me3 | exact ne_st h39 me0 | exact ne_st h39 me1 | exact ne_st h39 me2) ?_ | refine off_kst (by first | exact h29 _ me0 | exact h29 _ me1 | exact h29 _ me2 | exact h29 _ me3 | exact ne_st h39 me0 | exact ne_st h39 me1 | exact ne_st h39 me2) ?_))); try exact rfl)) ⟨rfl, rfl⟩
            | some i =>
              rw [hs] at F9 hRT
              dsimp only [findV] at F9 hRT ⊢
              have hiR := shutAt_lt hs
              cases hRT
              (repeat' (first | (k_unfold; (try dsimp only)) | (k_end; wrow_close) | ((with_reducible show wpAny _ _ (exec (Stmt.Assign (_ :: _) (PySem.Expr.ListComp _ _ _ _) _) _) _ _ _); (k_dflt (refine' assign_SU (by k_asm) (by rfl) (by with_unfolding_all rfl) (by with_unfolding_all rfl) (by decide) (by rfl) (by decide) (by rfl) (by rfl) (by rfl) ?_))) | ((with_reducible show wpAny _ _ (call (Value.builtin "len") _ _) _ _ _); (k_dflt (refine' len_tx (by first | assumption | omega) ?_); (try dsimp only))) | walk1 | (dsimp only; first | ((with_reducible show wpAny _ _ (exec (Stmt.Assign (_ :: _) (PySem.Expr.ListComp _ _ _ _) _) _) _ _ _); (k_dflt (refine' assign_SU (by k_asm) (by rfl) (by with_unfolding_all rfl) (by with_unfolding_all rfl) (by decide) (by rfl) (by decide) (by rfl) (by rfl) (by rfl) ?_))) | ((with_reducible show wpAny _ _ (call (Value.builtin "len") _ _) _ _ _); (k_dflt (refine' len_tx (by first | assumption | omega) ?_); (try dsimp only))) | walk1) | (leave1; walk_say "STEP leave1"; try dsimp only) | fail "no step"))
              rw [cut_slice hs]
              have hYl : (cutY R i).length ≤ R.length := by unfold cutY; rw [List.length_take, List.length_drop]; exact Nat.le_trans (Nat.min_le_right _ _) (Nat.sub_le _ _)
              refine ⟨_, _, _, rfl, rfl, by assumption, by assumption, by rw [sizeLine_eq]; exact Nat.le_trans hYl (Nat.le_trans hRl (by decide)), fun s₂ ⟨h, e⟩ => ?_⟩
              subst e
              have hsz9 : (⟨(cutY R i).toArray⟩ : Str).cps.size = (cutY R i).length := by simp
              rw [hsz9]
              refine rest_U (cutY R i) (fun c v => ∃ u, v = .str ⟨#[c]⟩ u) (fun pre ys => StrsAre ys (pre.map fun c => stq (escX c))) trivial (fun i v hv => by simpa using sign_items _ i v hv) .nil ?turnc ?finc
              case turnc =>
                intro pre c post v ys I oI C oC D m₂ h tk E' he hI hR hC hm F N off ne
                obtain ⟨u, rfl⟩ := hI
                cases hb : Txt.contains ampT ⟨#[c]⟩
                · have e : ((pre ++ [c]).map fun c => stq (escX c)) = (pre.map fun c => stq (escX c)) ++ [stq [c]] := by rw [List.map_append, List.map_singleton, escX_out hb]
                  (repeat' (first | (k_unfold; (try dsimp only)) | (k_end; wrow_close) | ((with_reducible show wpAny _ _ (compareOp PySem.CmpOp.In (Value.str _ _) (Value.str _ _)) _ _ _); (k_dflt (first | (refine' in_tx true (by assumption) ?_) | (refine' in_tx false (by assumption) ?_)))) | walk1 | (dsimp only; first | ((with_reducible show wpAny _ _ (compareOp PySem.CmpOp.In (Value.str _ _) (Value.str _ _)) _ _ _); (k_dflt (first | (refine' in_tx true (by assumption) ?_) | (refine' in_tx false (by assumption) ?_)))) | walk1) | (leave1; walk_say "STEP leave1"; try dsimp only) | fail "no step"))
                  exact ⟨_, _, _, rfl, by assumption, by assumption, off, rfl, by rw [e]; exact strs_snoc hR⟩
                · have e : ((pre ++ [c]).map fun c => stq (escX c)) = (pre.map fun c => stq (escX c)) ++ [stq [92, c]] := by rw [List.map_append, List.map_singleton, escX_in hb]
                  (repeat' (first | (k_unfold; (try dsimp only)) | (k_end; wrow_close) | ((with_reducible show wpAny _ _ (compareOp PySem.CmpOp.In (Value.str _ _) (Value.str _ _)) _ _ _); (k_dflt (first | (refine' in_tx true (by assumption) ?_) | (refine' in_tx false (by assumption) ?_)))) | walk1 | (dsimp only; first | ((with_reducible show wpAny _ _ (compareOp PySem.CmpOp.In (Value.str _ _) (Value.str _ _)) _ _ _); (k_dflt (first | (refine' in_tx true (by assumption) ?_) | (refine' in_tx false (by assumption) ?_)))) | walk1) | (leave1; walk_say "STEP leave1"; try dsimp only) | fail "no step"))
                  exact ⟨_, _, _, rfl, by assumption, by assumption, off, rfl, by rw [e]; exact strs_snoc hR⟩
              case finc =>
                intro ys hys D h' tk' F' N' o1
                have hsum := sum_esc (cutY R i)
                have hYs : ys.length = (cutY R i).length := by rw [hys.length, List.length_map]
                have hDn : ∀ p ∈ (l, listOf us.toArray k) :: news, p.1 ≠ D := off1_all o1
                have e5 : Txt.slice ⟨R.toArray⟩ (some ((i : Int) + 1)) none = ⟨(R.drop (i + 1)).toArray⟩ := by
                  rw [slice_tail (om1 i) (om18 hiR), show ((i : Int) + 1).toNat = i + 1 from rfl]
                have hq1 : (⟨(stL R).toArray⟩ : Str).length ≤ 2 := by show (stL R).toArray.size ≤ 2; simpa using hsl
                have hq2 := cat_len2 (cutY R i)
                by_cases h33 : R[0]? = some 33
                · have hsw : (((cutY R i).map fun c => stq (escX c)).map (·.length)).sum + ((cutY R i).map fun c => stq (escX c)).length ≤ 1048576 := Nat.le_trans hsum (Nat.le_trans (Nat.mul_le_mul_left 3 (Nat.le_trans hYl hRl)) (by decide))
                  (repeat' (first | (k_unfold; (try dsimp only)) | (k_end; wrow_close) | ((with_reducible show wpAny _ _ (compareOp PySem.CmpOp.Eq (Value.str _ _) (Value.str _ _)) _ _ _); (k_dflt (first | (refine' eq_tx true (by walk_at "mine_eq") ?_) | (refine' eq_tx false (by walk_at "mine_eq") ?_)))) | ((with_reducible show wpAny _ _ (call (Value.builtin "str.join") _ _) _ _ _); (k_dflt (refine' join0 (by (exact news_list (by k_asm) (by walk_at "mine_mem"))) (by (first | assumption | exact .cons _ _ (by assumption))) (by assumption) ?_); intro _ _; (try dsimp only))) | walk1 | (dsimp only; first | ((with_reducible show wpAny _ _ (compareOp PySem.CmpOp.Eq (Value.str _ _) (Value.str _ _)) _ _ _); (k_dflt (first | (refine' eq_tx true (by walk_at "mine_eq") ?_) | (refine' eq_tx false (by walk_at "mine_eq") ?_)))) | ((with_reducible show wpAny _ _ (call (Value.builtin "str.join") _ _) _ _ _); (k_dflt (refine' join0 (by (exact news_list (by k_asm) (by walk_at "mine_mem"))) (by (first | assumption | exact .cons _ _ (by assumption))) (by assumption) ?_); intro _ _; (try dsimp only))) | walk1) | (leave1; walk_say "STEP leave1"; try dsimp only) | fail "no step"))
                  rename News _ _ _ _ => N4
                  rename Fr _ _ _ _ => F4
                  exact wend (_, _, _, _) F4 N4 (fun _ h => .tail _ h) (by kst_all) (by (intro z9 h29 h39; (with_reducible (repeat (first | exact rfl | refine off_st h39 ?_ | refine off_st0 ?_ | refine off_nil ?_ | refine off_ite (by first | exact h29 _ me0 | exact h29 _ me1 | exact h29 _ me2 | exact h29 _ me3 | exact ne_st h39 me0 | exact ne_st h39 me1 | exact ne_st h39 me2) ?_ | refine off_kst (by first | exact h29 _ me0 | exact h29 _ me1 | exact h29 _ me2 | exact h29 _ me3 | exact ne_st h39 me0 | exact ne_st h39 me1 | exact ne_st h39 me2) ?_))); try exact rfl)) ⟨e5, told_in hs (by rw [cat_esc, inB_33 h33])⟩
                · obtain ⟨c0, Y0, hY0⟩ := cutY_ne hs h33
                  rw [hY0] at hys hsum hYs
                  obtain ⟨y0, yr, u0, rfl, hyr⟩ : ∃ y0 yr u0, ys = Value.str (stq (escX c0)) u0 :: yr ∧ StrsAre yr (Y0.map fun c => stq (escX c)) := by
                    cases hys with
                    | cons _ u r => exact ⟨Value.none, _, u, rfl, r⟩
                  have hsw : (((c0 :: Y0).map fun c => stq (escX c)).map (·.length)).sum + ((c0 :: Y0).map fun c => stq (escX c)).length ≤ 1048576 := by
                    have : (c0 :: Y0).length ≤ R.length := hY0 ▸ hYl
                    exact Nat.le_trans hsum (Nat.le_trans (Nat.mul_le_mul_left 3 (Nat.le_trans this hRl)) (by decide))
                  have hx0 : (Value.str (stq (escX c0)) u0 :: yr)[((0 : Int)).toNat]? = some (.str (stq (escX c0)) u0) := rfl
                  have hq3 : (stq (escX c0)).length ≤ 2 := by show (escX c0).toArray.size ≤ 2; unfold escX; split <;> simp
                  have hq4 : (cat ((⟨#[Int.toNat 92]⟩ ++ stq (escX c0) : Str) :: Y0.map fun c => stq (escX c))).length ≤ 2 * Y0.length + 3 := cat_bX_len c0 Y0
                  have hq5 := sum_bX c0 Y0
                  have hY0l : (c0 :: Y0).length ≤ R.length := hY0 ▸ hYl
                  rw [List.length_cons] at hY0l
                  have hq6 : ((bX c0 :: Y0.map fun c => stq (escX c)).map (·.length)).sum + (bX c0 :: Y0.map fun c => stq (escX c)).length ≤ 1048576 := Nat.le_trans hq5 (Nat.le_trans (Nat.add_le_add_right (Nat.mul_le_mul_left 3 (Nat.le_trans (Nat.le_of_succ_le hY0l) hRl)) 4) (by decide))
                  rw [hY0] at hq2
                  rw [List.length_cons] at hq2
                  by_cases hc0 : c0 = 91 ∨ c0 = 94
                  · have hdc := decide_eq_true hc0
                    (repeat' (first | (k_unfold; (try dsimp only)) | (k_end; wrow_close) | ((with_reducible show wpAny _ _ (compareOp PySem.CmpOp.Eq (Value.str _ _) (Value.str _ _)) _ _ _); (k_dflt (first | (refine' eq_tx true (by walk_at "mine_eq") ?_) | (refine' eq_tx false (by walk_at "mine_eq") ?_)))) | (((with_reducible show wpAny _ _ (compareOp PySem.CmpOp.In (Value.str _ _) (Value.ref _)) _ _ _); (k_dflt (first | (refine' in_br true (by assumption) (by k_asm) (by walk_at "mine_mem") ?_) | (refine' in_br false (by assumption) (by k_asm) (by walk_at "mine_mem") ?_)); (rename News _ _ _ _ => nN8); (replace nN8 := news_drop1 nN8))); (revert nN8; intro _)) | ((with_reducible show wpAny _ _ (subscriptTail (PySem.Expr.Name _ _) (PySem.Expr.Constant _ _ _) (Value.ref _) (Value.int _ _)) _ _ _); (k_dflt (refine' item_listN (by k_asm) (by walk_at "mine_mem") (by decide) (by decide) (by assumption) ?_); (try dsimp only))) | ((with_reducible show wpAny _ _ (setItem (Value.ref _) (Value.int 0 _) _) _ _ _); refine stopW ?_) | walk1 | (dsimp only; first | ((with_reducible show wpAny _ _ (compareOp PySem.CmpOp.Eq (Value.str _ _) (Value.str _ _)) _ _ _); (k_dflt (first | (refine' eq_tx true (by walk_at "mine_eq") ?_) | (refine' eq_tx false (by walk_at "mine_eq") ?_)))) | (((with_reducible show wpAny _ _ (compareOp PySem.CmpOp.In (Value.str _ _) (Value.ref _)) _ _ _); (k_dflt (first | (refine' in_br true (by assumption) (by k_asm) (by walk_at "mine_mem") ?_) | (refine' in_br false (by assumption) (by k_asm) (by walk_at "mine_mem") ?_)); (rename News _ _ _ _ => nN8); (replace nN8 := news_drop1 nN8))); (revert nN8; intro _)) | ((with_reducible show wpAny _ _ (subscriptTail (PySem.Expr.Name _ _) (PySem.Expr.Constant _ _ _) (Value.ref _) (Value.int _ _)) _ _ _); (k_dflt (refine' item_listN (by k_asm) (by walk_at "mine_mem") (by decide) (by decide) (by assumption) ?_); (try dsimp only))) | ((with_reducible show wpAny _ _ (setItem (Value.ref _) (Value.int 0 _) _) _ _ _); refine stopW ?_) | walk1) | (leave1; walk_say "STEP leave1"; try dsimp only) | fail "no step"))
                    unfold StopW
                    rename News _ _ _ _ => N5
                    rename Fr _ _ _ _ => F5
                    refine set_first (vs := Value.str (stq (escX c0)) u0 :: yr) (n := (Value.str (stq (escX c0)) u0 :: yr).length) F5 N5 (.head hDn) (Nat.zero_lt_succ _) (Nat.le_trans (Nat.le_of_eq hYs) (Nat.le_trans hY0l (Nat.le_trans hRl (by decide)))) ?_
                    intro h9 F9 N9
                    clear F5 N5
                    dsimp only [List.tail_cons] at N9 ⊢
                    (repeat' (first | (k_unfold; (try dsimp only)) | (k_end; wrow_close) | ((with_reducible show wpAny _ _ (call (Value.builtin "str.join") _ _) _ _ _); (k_dflt (refine' join0 (by (exact news_list (by k_asm) (by walk_at "mine_mem"))) (by (first | assumption | exact .cons _ _ (by assumption))) (by assumption) ?_); intro _ _; (try dsimp only))) | walk1 | (dsimp only; first | ((with_reducible show wpAny _ _ (call (Value.builtin "str.join") _ _) _ _ _); (k_dflt (refine' join0 (by (exact news_list (by k_asm) (by walk_at "mine_mem"))) (by (first | assumption | exact .cons _ _ (by assumption))) (by assumption) ?_); intro _ _; (try dsimp only))) | walk1) | (leave1; walk_say "STEP leave1"; try dsimp only) | fail "no step"))
                    rename News _ _ _ _ => N4
                    rename Fr _ _ _ _ => F4
                    exact wend (_, _, _, _) F4 N4 (fun _ h => .tail _ h) (by kst_all) (by (intro z9 h29 h39; (with_reducible (repeat (first | exact rfl | refine off_st h39 ?_ | refine off_st0 ?_ | refine off_nil ?_ | refine off_ite (by first | exact h29 _ me0 | exact h29 _ me1 | exact h29 _ me2 | exact h29 _ me3 | exact ne_st h39 me0 | exact ne_st h39 me1 | exact ne_st h39 me2) ?_ | refine off_kst (by first | exact h29 _ me0 | exact h29 _ me1 | exact h29 _ me2 | exact h29 _ me3 | exact ne_st h39 me0 | exact ne_st h39 me1 | exact ne_st h39 me2) ?_))); try exact rfl)) ⟨e5, told_in hs (by rw [hY0, inB_yes h33 hc0]; exact cat_bX c0 Y0)⟩
                  · have hdc := decide_eq_false hc0
                    (repeat' (first | (k_unfold; (try dsimp only)) | (k_end; wrow_close) | ((with_reducible show wpAny _ _ (compareOp PySem.CmpOp.Eq (Value.str _ _) (Value.str _ _)) _ _ _); (k_dflt (first | (refine' eq_tx true (by walk_at "mine_eq") ?_) | (refine' eq_tx false (by walk_at "mine_eq") ?_)))) | (((with_reducible show wpAny _ _ (compareOp PySem.CmpOp.In (Value.str _ _) (Value.ref _)) _ _ _); (k_dflt (first | (refine' in_br true (by assumption) (by k_asm) (by walk_at "mine_mem") ?_) | (refine' in_br false (by assumption) (by k_asm) (by walk_at "mine_mem") ?_)); (rename News _ _ _ _ => nN8); (replace nN8 := news_drop1 nN8))); (revert nN8; intro _)) | ((with_reducible show wpAny _ _ (call (Value.builtin "str.join") _ _) _ _ _); (k_dflt (refine' join0 (by (exact news_list (by k_asm) (by walk_at "mine_mem"))) (by (first | assumption | exact .cons _ _ (by assumption))) (by assumption) ?_); intro _ _; (try dsimp only))) | ((with_reducible show wpAny _ _ (subscriptTail (PySem.Expr.Name _ _) (PySem.Expr.Constant _ _ _) (Value.ref _) (Value.int _ _)) _ _ _); (k_dflt (refine' item_listN (by k_asm) (by walk_at "mine_mem") (by decide) (by decide) (by assumption) ?_); (try dsimp only))) | walk1 | (dsimp only; first | ((with_reducible show wpAny _ _ (compareOp PySem.CmpOp.Eq (Value.str _ _) (Value.str _ _)) _ _ _); (k_dflt (first | (refine' eq_tx true (by walk_at "mine_eq") ?_) | (refine' eq_tx false (by walk_at "mine_eq") ?_)))) | (((with_reducible show wpAny _ _ (compareOp PySem.CmpOp.In (Value.str _ _) (Value.ref _)) _ _ _); (k_dflt (first | (refine' in_br true (by assumption) (by k_asm) (by walk_at "mine_mem") ?_) | (refine' in_br false (by assumption) (by k_asm) (by walk_at "mine_mem") ?_)); (rename News _ _ _ _ => nN8); (replace nN8 := news_drop1 nN8))); (revert nN8; intro _)) | ((with_reducible show wpAny _ _ (call (Value.builtin "str.join") _ _) _ _ _); (k_dflt (refine' join0 (by (exact news_list (by k_asm) (by walk_at "mine_mem"))) (by (first | assumption | exact .cons _ _ (by assumption))) (by assumption) ?_); intro _ _; (try dsimp only))) | ((with_reducible show wpAny _ _ (subscriptTail (PySem.Expr.Name _ _) (PySem.Expr.Constant _ _ _) (Value.ref _) (Value.int _ _)) _ _ _); (k_dflt (refine' item_listN (by k_asm) (by walk_at "mine_mem") (by decide) (by decide) (by assumption) ?_); (try dsimp only))) | walk1) | (leave1; walk_say "STEP leave1"; try dsimp only) | fail "no step"))
                    rename News _ _ _ _ => N4
                    rename Fr _ _ _ _ => F4
                    exact wend (_, _, _, _) F4 N4 (fun _ h => .tail _ h) (by kst_all) (by (intro z9 h29 h39; (with_reducible (repeat (first | exact rfl | refine off_st h39 ?_ | refine off_st0 ?_ | refine off_nil ?_ | refine off_ite (by first | exact h29 _ me0 | exact h29 _ me1 | exact h29 _ me2 | exact h29 _ me3 | exact ne_st h39 me0 | exact ne_st h39 me1 | exact ne_st h39 me2) ?_ | refine off_kst (by first | exact h29 _ me0 | exact h29 _ me1 | exact h29 _ me2 | exact h29 _ me3 | exact ne_st h39 me0 | exact ne_st h39 me1 | exact ne_st h39 me2) ?_))); try exact rfl)) ⟨e5, told_in hs (by rw [hY0, inB_no h33 hc0]; exact cat_esc (c0 :: Y0))⟩
          case rest3 =>
            clear F9 N9
            intro c u h tk uq hp F3 N3
            obtain ⟨S1, S2, t1, t2⟩ := c
            dsimp only at hp F3 N3 ⊢
            obtain ⟨hp1, hp2⟩ := hp
            subst hp1 hp2
            obtain ⟨M9, F3⟩ := flat_fr F3 [(Str.ofString "rest", .str ⟨R2.toArray⟩ t1), (Str.ofString "runs", .ref l), (Str.ofString "told", .str ⟨TT.toArray⟩ t2)] (by kst_all)
            have hx91 := (findL_some hf).2.1
            have hsub : R2.Sublist R := by
              cases hs : shutAt R with
              | none => rw [hs] at hRT; cases hRT; exact List.Sublist.refl _
              | some i => rw [hs] at hRT; cases hRT; exact List.drop_sublist _ _
            have hTl : TT.length ≤ 4 * R.length + 4 := by
              cases hs : shutAt R with
              | none => rw [hs] at hRT; cases hRT; simp
              | some i =>
                rw [hs] at hRT; cases hRT
                have := brk_len (R.take i)
                exact Nat.le_trans this (Nat.add_le_add_right (Nat.mul_le_mul_left 4 (Nat.le_trans (Nat.le_of_eq List.length_take) (Nat.min_le_right _ _))) 4)
            have hcnt := count_rest hx91 (hR ▸ hsub)
            have hR2l := hsub.length_le
            have hRx : R.length < x.length := by rw [hR, List.length_drop]; exact Nat.sub_lt (Nat.lt_of_le_of_lt (Nat.zero_le _) hjx) (Nat.succ_pos _)
            have hRh : 45 ∉ R2 := fun q => hh (List.mem_of_mem_drop (hR ▸ hsub.mem q))
            k_steps
            refine' con_use (ih R2 t1 ?i1 ?i2) ?k1 ?k2 ?k3 ?k4 ?k5 ?k6 trivial ?k7 ?k8 ?_
            case i1 => exact Nat.lt_of_le_of_lt hR2l hRx
            case i2 => exact hRh
            ((case k1 => k_asm); (case k2 => k_asm); (case k3 => k_asm); (case k4 => k_asm); (case k5 => k_asm); (case k6 => exact rfl); (case k7 => ktr_room); (case k8 => ktr_units))
            intro v tl h9 tk9 hRr hlt9 F9 N9
            obtain ⟨D2, us2, k2, rfl, hm2, hst2⟩ := hRr
            obtain ⟨y1, u1, hlast, hry⟩ := hi.last
            have g2 := runsP _ R2 (Nat.le_refl _)
            obtain ⟨y2, r2, hr2⟩ : ∃ y2 r2, runsL R2 = y2 :: r2 := by
              cases e : runsL R2 with
              | nil => exact absurd e g2.ne
              | cons a b => exact ⟨a, b, rfl⟩
            have hy2 := g2.sz y2 (by rw [hr2]; exact .head _)
            have hl2 := g2.len
            rw [hr2] at hst2 hl2
            obtain ⟨u2, ur2, rfl, hur2⟩ : ∃ u2 ur2, us2 = Value.str (stq y2) u2 :: ur2 ∧ StrsAre ur2 (r2.map stq) := by
              cases hst2 with
              | cons _ u r => exact ⟨u, _, rfl, r⟩
            have hy1 := hi.sz y1 (List.mem_of_getLast? hry)
            have hz1 : (stq y1).length ≤ 4000 := Nat.le_trans hy1 (Nat.le_trans (Nat.mul_le_mul_left 2 (Nat.le_trans hHl hz)) (by decide))
            have hz2 : (stq y2).length ≤ 9000 := Nat.le_trans hy2 (Nat.le_trans (Nat.mul_le_mul_left 8 (Nat.le_trans hR2l hRl)) (by decide))
            have hz3 : (⟨TT.toArray⟩ : Str).length ≤ 9000 := Nat.le_trans hTl (Nat.le_trans (Nat.add_le_add_right (Nat.mul_le_mul_left 4 hRl) 4) (by decide))
            have hx0 : (Value.str (stq y2) u2 :: ur2)[((0 : Int)).toNat]? = some (.str (stq y2) u2) := rfl
            have hurl : (Value.str (stq y2) u2 :: ur2).length ≤ 2000 := by rw [List.length_cons, hur2.length, List.length_map]; exact Nat.le_trans hl2 (Nat.le_trans (Nat.succ_le_succ (Nat.le_trans hR2l hRl)) (by decide))
            have husl : us.length ≤ 2000 := Nat.le_trans hu2 (Nat.le_trans (Nat.succ_le_succ (Nat.le_trans hHl hz)) (by decide))
            have huz : us.length ≤ 100000 := Nat.le_trans husl (by decide)
            replace N9 := news_two N9 hm2
            (repeat' (first | (k_unfold; (try dsimp only)) | (k_end; wrow_close) | ((with_reducible show wpAny _ _ (subscriptTail _ (PySem.Expr.Slice _ _ none _) (Value.ref _) (Value.ref _)) _ _ _); k_dflt (refine' slice_list (by assumption) (by assumption) (by exact news_list (by k_asm) (by walk_at "mine_mem")) (by first | exact .none | exact .int _ _) (by first | exact .none | exact .int _ _) ?_); intro _ _ _) | ((with_reducible show wpAny _ _ (binaryOp PySem.Operator.Add (Value.ref _) (Value.ref _)) _ _ _); (refine stopW ?_)) | ((with_reducible show wpAny _ _ (subscriptTail (PySem.Expr.Name _ _) (PySem.Expr.UnaryOp _ _ _) (Value.ref _) (Value.int _ _)) _ _ _); (k_dflt (refine' item_last (by k_asm) (by walk_at "mine_mem") (by assumption) ?_); (try dsimp only))) | ((with_reducible show wpAny _ _ (subscriptTail (PySem.Expr.Name _ _) (PySem.Expr.Constant _ _ _) (Value.ref _) (Value.int _ _)) _ _ _); (k_dflt (refine' item_listN (by k_asm) (by walk_at "mine_mem") (by decide) (by decide) (by assumption) ?_); (try dsimp only))) | walk1 | (dsimp only; first | ((with_reducible show wpAny _ _ (subscriptTail _ (PySem.Expr.Slice _ _ none _) (Value.ref _) (Value.ref _)) _ _ _); k_dflt (refine' slice_list (by assumption) (by assumption) (by exact news_list (by k_asm) (by walk_at "mine_mem")) (by first | exact .none | exact .int _ _) (by first | exact .none | exact .int _ _) ?_); intro _ _ _) | ((with_reducible show wpAny _ _ (binaryOp PySem.Operator.Add (Value.ref _) (Value.ref _)) _ _ _); (refine stopW ?_)) | ((with_reducible show wpAny _ _ (subscriptTail (PySem.Expr.Name _ _) (PySem.Expr.UnaryOp _ _ _) (Value.ref _) (Value.int _ _)) _ _ _); (k_dflt (refine' item_last (by k_asm) (by walk_at "mine_mem") (by assumption) ?_); (try dsimp only))) | ((with_reducible show wpAny _ _ (subscriptTail (PySem.Expr.Name _ _) (PySem.Expr.Constant _ _ _) (Value.ref _) (Value.int _ _)) _ _ _); (k_dflt (refine' item_listN (by k_asm) (by walk_at "mine_mem") (by decide) (by decide) (by assumption) ?_); (try dsimp only))) | walk1) | (leave1; walk_say "STEP leave1"; try dsimp only) | fail "no step"))
            unfold StopW
            rename News _ _ _ _ => N5
            rename Fr _ _ _ _ => F5
            rw [pick_init] at N5
            refine PyProof.Rows.add_lists (vs := us.dropLast) (ws := [.str (stq y1 ++ ⟨TT.toArray⟩ ++ stq y2) _]) F5 N5 (news_list N5 (.tail _ (.head _))) (news_list (vs := [.str (stq y1 ++ ⟨TT.toArray⟩ ++ stq y2) _]) N5 (.head _)) ?_ (by rw [sizeLine_eq]; simp only [List.length_dropLast, List.length_cons, List.length_nil]; omega)
            intro h6 F6 N6
            clear F5 N5
            replace N6 := news_pick5 N6
            (repeat' (first | (k_unfold; (try dsimp only)) | (k_end; wrow_close) | ((with_reducible show wpAny _ _ (subscriptTail _ (PySem.Expr.Slice _ _ none _) (Value.ref _) (Value.ref _)) _ _ _); k_dflt (refine' slice_list (by assumption) (by assumption) (by exact news_list (by k_asm) (by walk_at "mine_mem")) (by first | exact .none | exact .int _ _) (by first | exact .none | exact .int _ _) ?_); intro _ _ _) | ((with_reducible show wpAny _ _ (binaryOp PySem.Operator.Add (Value.ref _) (Value.ref _)) _ _ _); (refine stopW ?_)) | walk1 | (dsimp only; first | ((with_reducible show wpAny _ _ (subscriptTail _ (PySem.Expr.Slice _ _ none _) (Value.ref _) (Value.ref _)) _ _ _); k_dflt (refine' slice_list (by assumption) (by assumption) (by exact news_list (by k_asm) (by walk_at "mine_mem")) (by first | exact .none | exact .int _ _) (by first | exact .none | exact .int _ _) ?_); intro _ _ _) | ((with_reducible show wpAny _ _ (binaryOp PySem.Operator.Add (Value.ref _) (Value.ref _)) _ _ _); (refine stopW ?_)) | walk1) | (leave1; walk_say "STEP leave1"; try dsimp only) | fail "no step"))
            unfold StopW
            rename News _ _ _ _ => N7
            rename Fr _ _ _ _ => F7
            rw [pick_tail] at N7
            have hs7 : ∀ q ∈ news, q.1 < _ := fun q hq => Heap.lt_size (N7 q (.tail _ (.tail _ (.tail _ (List.mem_append_right _ hq))))).1
            refine PyProof.Rows.add_lists (vs := us.dropLast ++ [.str (stq y1 ++ ⟨TT.toArray⟩ ++ stq y2) _]) (ws := ur2) F7 N7 (news_list N7 (.tail _ (.tail _ (.head _)))) (news_list N7 (.head _)) ?_ (by rw [sizeLine_eq]; simp only [List.length_append, List.length_dropLast, List.length_cons, List.length_nil] at hurl ⊢; omega)
            intro h8 F8 N8
            clear F7 N7
            replace N8 := news_fin N8
            k_steps
            rename Fr h₀ L _ m => Ff
            rename News h₀ L _ _ => Nf
            refine hret (.ref _) [(_, listOf (us.dropLast ++ [Value.str (stq y1 ++ ⟨TT.toArray⟩ ++ stq y2) _] ++ ur2).toArray 0)] _ _ ⟨_, _, 0, rfl, .head _, ?_⟩ ?_ Ff Nf
            · rw [hrl, hr2, ← hq]; exact join_strs hus hry hur2
            · intro q hq p hp
              rw [List.mem_singleton.mp hp]; exact hs7 q hq
theorem c_runs (w : World) : ∀ (n : Nat) (x : List Nat) (t : Tok), x.length ≤ n → x.length ≤ 1000 → 45 ∉ x → Con w 171 [.str ⟨x.toArray⟩ t] (fun _ => True) (x.count 91 + 6) (x.count 91 * 100 + 100) (RunR x)
  | 0, x, t, hn, hz, hh => c_runsA w x t hz hh fun y _ hy _ => absurd hy (Nat.not_lt_of_le (Nat.le_trans hn (Nat.zero_le _)))
  | n + 1, x, t, hn, hz, hh => c_runsA w x t hz hh fun y ty hy hyh => c_runs w n y ty (Nat.le_of_lt_succ (Nat.lt_of_lt_of_le hy hn)) (Nat.le_trans (Nat.le_of_lt hy) hz) hyh
end
theorem flush_runs : True := by first | walk1 | trivial
section

/-- the law's text of runs -/
noncomputable def midL (ts : List (List Nat)) : List Nat := (ts.filter (fun y => !y.isEmpty)).flatMap fun y => [40, 63, 62, 46, 42, 63] ++ y ++ [41]
noncomputable def textB (ts : List (List Nat)) : List Nat := match ts with
  | [] => []
  | y :: r => if r = [] then y else y ++ (midL r.dropLast ++ [46, 42] ++ (r.getLast?.getD []))
noncomputable def textT (ts : List (List Nat)) : List Nat := [40, 63, 115, 58] ++ textB ts ++ [41, 92, 90]
theorem pick_mid (us : List Value) : slicePick us.toArray (some 1) (some (-1)) none = us.tail.dropLast.toArray := by
  rw [kms_pick_eq]
  congr 1
  unfold kms_pick
  simp only [kms_lo, kms_hi]
  cases us with
  | nil => rfl
  | cons a r =>
    simp only [List.length_cons, List.tail_cons]
    rw [List.dropLast_eq_take]
    simp
    try omega
section
variable {prog : Program} {w : World} {A : Around} {E : Value → Shared → Prop} {s : Shared} {h₀ : Heap} {L D : Addr} {news : List (Addr × Obj)}
theorem truthy_vs {vs : List Value} {n : Nat} {Q : Bool → Shared → Prop} (b : Bool) (hb : (!vs.isEmpty) = b) (N : News h₀ L s.heap news) (hm : (D, ({ cls := .type "list", data := .seq vs.toArray n } : Obj)) ∈ news) (hz : vs.length ≤ 100000) (h : Q b { s with toks := s.toks + 1 + 1 }) : wpAny (model prog w) A (truthy (.ref D)) Q E s :=
  wpAny_truthy_list (news_list N hm) (by simp only [List.size_toArray]; omega) (by
    have e : (!vs.toArray.isEmpty) = b := by rw [← hb]; simp
    rw [e]; exact h)
theorem truthy_nil {t : Tok} {Q : Bool → Shared → Prop} (h : Q false { s with toks := s.toks + 1 + 1 }) : wpAny (model prog w) A (truthy (.str (stq []) t)) Q E s := by
  have hl : (stq []).length = 0 := rfl
  refine P.truthy_str (by rw [hl]; omega) ?_
  have e : (((stq []).length : Int) != 0) = false := by rw [hl]; rfl
  rw [e]; exact h
end
noncomputable abbrev wrapX (y : List Nat) : Str := Str.ofString "(?>.*?" ++ stq y ++ Str.ofString ")"
theorem wrapX_eq (y : List Nat) : wrapX y = stq ([40, 63, 62, 46, 42, 63] ++ y ++ [41]) := by
  unfold wrapX
  rw [show Str.ofString "(?>.*?" = ⟨[40, 63, 62, 46, 42, 63].toArray⟩ by decide +kernel, show Str.ofString ")" = ⟨[41].toArray⟩ by decide +kernel, app_q, app_q]
noncomputable def wrapL (ts : List (List Nat)) : List Str := (ts.filter (fun y => !y.isEmpty)).map wrapX
theorem wrapL_snoc (ts : List (List Nat)) (y : List Nat) : wrapL (ts ++ [y]) = wrapL ts ++ (if y.isEmpty then [] else [wrapX y]) := by
  unfold wrapL
  rw [List.filter_append, List.map_append]
  cases y <;> rfl
theorem cat_wrap (ts : List (List Nat)) : cat (wrapL ts) = stq (midL ts) := by
  unfold cat wrapL midL
  rw [List.flatMap_map]
  have e : (fun a => (wrapX a).cps.toList) = fun (y : List Nat) => [40, 63, 62, 46, 42, 63] ++ y ++ [41] := by
    funext y; rw [wrapX_eq]
  rw [e]
theorem strs_items {r : List (List Nat)} {vs : List Value} (h : StrsAre vs (r.map stq)) (i : Nat) (v : Value) (hv : vs.toArray[i]? = some v) : ∃ y, r[i]? = some y ∧ ∃ u, v = .str (stq y) u := by
  have hv' : vs[i]? = some v := by simpa using hv
  have hl := h.length
  rw [List.length_map] at hl
  have hi : i < r.length := by rw [← hl]; exact (List.getElem?_eq_some_iff.mp hv').1
  refine ⟨r[i], List.getElem?_eq_getElem hi, ?_⟩
  clear hl
  induction r generalizing vs i with
  | nil => simp at hi
  | cons y r ih =>
    obtain ⟨u, vs', rfl, h2⟩ : ∃ u vs', vs = Value.str (stq y) u :: vs' ∧ StrsAre vs' (r.map stq) := by
      cases h with
      | cons _ u h2 => exact ⟨u, _, rfl, h2⟩
    cases i with
    | zero => cases hv'; exact ⟨u, rfl⟩
    | succ i =>
      have hv2 : vs'[i]? = some v := by simpa using hv'
      exact ih h2 i (by simpa using hv2) hv2 (by simpa using hi)
theorem text_end {y : List Nat} {r : List (List Nat)} {z : List Nat} (h : r ≠ []) (hz : r.getLast? = some z) : (stq y ++ (stq (midL r.dropLast) ++ Str.ofString ".*" ++ stq z) : Str) = stq (textB (y :: r)) := by
  rw [show textB (y :: r) = y ++ (midL r.dropLast ++ [46, 42] ++ (r.getLast?.getD [])) from if_neg h, hz, show Str.ofString ".*" = ⟨[46, 42].toArray⟩ by decide +kernel, app_q, app_q, app_q]
  rfl
theorem text_one (y : List Nat) : textB [y] = y := by simp [textB]
theorem text_all (b : List Nat) : (Str.ofString "(?s:" ++ stq b ++ Str.ofString ")" ++ ⟨#[Int.toNat 92]⟩ ++ Str.ofString "Z" : Str) = ⟨([40, 63, 115, 58] ++ b ++ [41, 92, 90]).toArray⟩ := by
  rw [show Str.ofString "(?s:" = ⟨[40, 63, 115, 58].toArray⟩ by decide +kernel, show Str.ofString ")" = ⟨[41].toArray⟩ by decide +kernel, show Str.ofString "Z" = ⟨[90].toArray⟩ by decide +kernel, show (⟨#[Int.toNat 92]⟩ : Str) = ⟨[92].toArray⟩ from rfl, app_q, app_q, app_q, app_q]
  simp
theorem news_add {h₀ h : Heap} {L : Addr} {a : Addr × Obj} {l : List (Addr × Obj)} (N : News h₀ L h l) (ha : a ∈ l) : News h₀ L h (a :: l) := fun p hp => N p ((List.mem_cons.mp hp).elim (fun e => e ▸ ha) id)
theorem wrap_len {ts : List (List Nat)} (h : ∀ y ∈ ts, y.length ≤ 2400) : ∀ w ∈ wrapL ts, w.length ≤ 2407 := by
  intro w hw
  obtain ⟨y, hy, rfl⟩ := List.mem_map.mp hw
  have := h y (List.mem_filter.mp hy).1
  rw [wrapX_eq]
  show ([40, 63, 62, 46, 42, 63] ++ y ++ [41]).toArray.size ≤ 2407
  simp; omega
theorem cat_sum (ws : List Str) : (cat ws).length = (ws.map (·.length)).sum := by
  show (ws.flatMap fun y => y.cps.toList).toArray.size = _
  rw [List.size_toArray]
  induction ws with
  | nil => rfl
  | cons a r ih => rw [List.flatMap_cons, List.length_append, List.map_cons, List.sum_cons, ih]; simp [PySem.Str.length]
end
section

set_option maxHeartbeats 16000000 in
theorem c_text (w : World) (x : List Nat) (t : Tok) (hz : x.length ≤ 300) (hh : 45 ∉ x) :
    Con w 176 [.str ⟨x.toArray⟩ t] (fun _ => True) (x.count 91 + 8) (x.count 91 * 100 + 200) (fun v tl => tl = [] ∧ ∃ u, v = .str ⟨(textT (runsL x)).toArray⟩ u) := by
  intro p loose mean mg mb dp un gd cn cs a ccd cl outer A₀ base h₀ L m news s Q E B F X N T hk hpre hd hu hret
  (refine wpAny_call ?_; k_dflt cell_enter; (try dsimp only [bd3, bd6, bd8, bd9, bd12, bd14, bd16, bd17, bd18, bd19, bd20, bd21, bd22, bd23, ar3, ar6, ar8, ar9, ar12, ar14, ar16, ar17, ar18, ar19, ar20, ar21, ar22, ar23, sc3, sc6, sc8, sc9, sc12, sc14, sc16, sc17, sc18, sc19, sc20, sc21, sc22, sc23] at *); (try simp only [List.map_cons, List.map_nil, List.nil_append, List.append_nil, List.cons_append] at *); (refine let_env ?_); intro A1 e1)
  k_steps
  refine' con_use (c_runs w _ x t (Nat.le_refl _) (by omega) hh) ?k1 ?k2 ?k3 ?k4 ?k5 ?k6 trivial ?k7 ?k8 ?_
  ((case k1 => k_asm); (case k2 => k_asm); (case k3 => k_asm); (case k4 => k_asm); (case k5 => k_asm); (case k6 => exact rfl); (case k7 => ktr_room); (case k8 => ktr_units))
  intro v tl h9 tk9 hRr hlt9 F9 N9
  obtain ⟨D2, us2, k2, rfl, hm2, hst2⟩ := hRr
  have g2 := runsP _ x (Nat.le_refl _)
  obtain ⟨y2, r2, hr2⟩ : ∃ y2 r2, runsL x = y2 :: r2 := by
    cases e : runsL x with
    | nil => exact absurd e g2.ne
    | cons a b => exact ⟨a, b, rfl⟩
  have hy2 := g2.sz y2 (by rw [hr2]; exact .head _)
  have hl2 := g2.len
  rw [hr2] at hst2 hl2
  obtain ⟨u2, ur2, rfl, hur2⟩ : ∃ u2 ur2, us2 = Value.str (stq y2) u2 :: ur2 ∧ StrsAre ur2 (r2.map stq) := by
    cases hst2 with
    | cons _ u r => exact ⟨u, _, rfl, r⟩
  have hz2 : (stq y2).length ≤ 9000 := by show y2.toArray.size ≤ 9000; simp; omega
  have hx0 : (Value.str (stq y2) u2 :: ur2)[((0 : Int)).toNat]? = some (.str (stq y2) u2) := rfl
  have hurl : (Value.str (stq y2) u2 :: ur2).length ≤ 2000 := by rw [List.length_cons, hur2.length, List.length_map]; rw [List.length_cons] at hl2; omega
  replace N9 : News _ _ _ ((D2, listOf (Value.str (stq y2) u2 :: ur2).toArray k2) :: (tl ++ news)) := news_add N9 (List.mem_append_left _ hm2)
  (repeat' (first | (k_unfold; (try dsimp only)) | (k_end; wrow_close) | ((with_reducible show wpAny _ _ (subscriptTail _ (PySem.Expr.Slice _ _ none _) (Value.ref _) (Value.ref _)) _ _ _); k_dflt (refine' slice_list (by assumption) (by assumption) (by exact news_list (by k_asm) (by walk_at "mine_mem")) (by first | exact .none | exact .int _ _) (by first | exact .none | exact .int _ _) ?_); intro _ _ _) | ((with_reducible show wpAny _ _ (truthy (Value.ref _)) _ _ _); ((refine stopW ?_))) | ((with_reducible show wpAny _ _ (subscriptTail (PySem.Expr.Name _ _) (PySem.Expr.Constant _ _ _) (Value.ref _) (Value.int _ _)) _ _ _); (k_dflt (refine' item_listN (by k_asm) (by walk_at "mine_mem") (by decide) (by decide) (by assumption) ?_); (try dsimp only))) | walk1 | (dsimp only; first | ((with_reducible show wpAny _ _ (subscriptTail _ (PySem.Expr.Slice _ _ none _) (Value.ref _) (Value.ref _)) _ _ _); k_dflt (refine' slice_list (by assumption) (by assumption) (by exact news_list (by k_asm) (by walk_at "mine_mem")) (by first | exact .none | exact .int _ _) (by first | exact .none | exact .int _ _) ?_); intro _ _ _) | ((with_reducible show wpAny _ _ (truthy (Value.ref _)) _ _ _); ((refine stopW ?_))) | ((with_reducible show wpAny _ _ (subscriptTail (PySem.Expr.Name _ _) (PySem.Expr.Constant _ _ _) (Value.ref _) (Value.int _ _)) _ _ _); (k_dflt (refine' item_listN (by k_asm) (by walk_at "mine_mem") (by decide) (by decide) (by assumption) ?_); (try dsimp only))) | walk1) | (leave1; walk_say "STEP leave1"; try dsimp only) | fail "no step"))
  unfold StopW
  rename News _ _ _ _ => N5
  rename Fr _ _ _ _ => F5
  rw [pick_tail, List.tail_cons] at N5
  cases r2 with
  | nil =>
    obtain rfl : ur2 = [] := by cases hur2; rfl
    refine truthy_vs false rfl N5 (.head _) (by simp) ?_
    k_steps
    rename Fr h₀ L _ m => Ff
    rename News h₀ L _ _ => Nf
    exact con_endS (by rw [text_all, hr2, textT, text_one]) hret Ff (fun p hp => Nf p (.tail _ (.tail _ (List.mem_append_right _ hp))))
  | cons y3 r3 =>
    have hne : ur2 ≠ [] := by intro e; rw [e] at hur2; cases hur2
    refine truthy_vs true (by cases ur2 with
      | nil => exact absurd rfl hne
      | cons a b => rfl) N5 (.head _) (by rw [List.length_cons] at hurl; omega) ?_
    replace N5 := news_drop1 N5
    obtain ⟨z3, hz3⟩ : ∃ z3, (y3 :: r3).getLast? = some z3 := by
      cases e : (y3 :: r3).getLast? with
      | none => cases (List.getLast?_eq_none_iff.mp e)
      | some z => exact ⟨z, rfl⟩
    obtain ⟨u3, hu3⟩ := strs_last (w := stq z3) hur2 (by rw [List.getLast?_map, hz3]; rfl)
    have hlast : (Value.str (stq y2) u2 :: ur2).getLast? = some (.str (stq z3) u3) := by
      cases ur2 with
      | nil => cases hu3
      | cons a b => rw [List.getLast?_cons_cons]; exact hu3
    have hz3l := g2.sz z3 (by rw [hr2]; exact .tail _ (List.mem_of_getLast? hz3))
    have hz33 : (stq z3).length ≤ 9000 := by show z3.toArray.size ≤ 9000; simp; omega
    (repeat' (first | (k_unfold; (try dsimp only)) | (k_end; wrow_close) | ((with_reducible show wpAny _ _ (subscriptTail _ (PySem.Expr.Slice _ _ none _) (Value.ref _) (Value.ref _)) _ _ _); k_dflt (refine' slice_list (by assumption) (by assumption) (by exact news_list (by k_asm) (by walk_at "mine_mem")) (by first | exact .none | exact .int _ _) (by first | exact .none | exact .int _ _) ?_); intro _ _ _) | ((with_reducible show wpAny _ _ (eval (PySem.Expr.ListComp _ _ _ _) _) _ _ _); (k_dflt (refine' LCt.ListComp_T (by k_asm) (by with_unfolding_all rfl) (by decide) (by rfl) (by decide) (by rfl) ?_))) | walk1 | (dsimp only; first | ((with_reducible show wpAny _ _ (subscriptTail _ (PySem.Expr.Slice _ _ none _) (Value.ref _) (Value.ref _)) _ _ _); k_dflt (refine' slice_list (by assumption) (by assumption) (by exact news_list (by k_asm) (by walk_at "mine_mem")) (by first | exact .none | exact .int _ _) (by first | exact .none | exact .int _ _) ?_); intro _ _ _) | ((with_reducible show wpAny _ _ (eval (PySem.Expr.ListComp _ _ _ _) _) _ _ _); (k_dflt (refine' LCt.ListComp_T (by k_asm) (by with_unfolding_all rfl) (by decide) (by rfl) (by decide) (by rfl) ?_))) | walk1) | (leave1; walk_say "STEP leave1"; try dsimp only) | fail "no step"))
    rename News _ _ _ _ => N6
    rename Fr _ _ _ _ => F6
    rw [pick_mid, List.tail_cons] at N6
    have hmid : StrsAre ur2.dropLast ((y3 :: r3).dropLast.map stq) := by rw [List.map_dropLast]; exact strs_drop hur2
    refine LCt.CompSrcT.ledger rfl F6 N6 (.head _) ?_ ?_
    · rw [sizeLine_eq, List.size_toArray, List.length_dropLast]; rw [List.length_cons] at hurl; omega
    · intro g
      have hlen9 : ur2.dropLast.toArray.size = (y3 :: r3).dropLast.length := by rw [List.size_toArray, hmid.length, List.length_map]
      rw [hlen9]
      refine rest_T (y3 :: r3).dropLast (fun y v => ∃ u, v = .str (stq y) u) (fun pre ys => StrsAre ys (wrapL pre)) (.inr ⟨_, .head _, rfl, _, rfl⟩) (strs_items hmid) .nil ?turnc ?finc
      case turnc =>
        intro pre c post v ys I oI C oC D m₂ h tk E' he hI hR hC hm F N off ne
        obtain ⟨u, rfl⟩ := hI
        have hcm : c ∈ y3 :: r3 := List.dropLast_subset _ (by rw [he]; simp)
        have hcl := g2.sz c (by rw [hr2]; exact .tail _ hcm)
        have hcl2 : (stq c).length ≤ 9000 := by show c.toArray.size ≤ 9000; simp; omega
        cases c with
        | nil =>
          (repeat' (first | (k_unfold; (try dsimp only)) | (k_end; wrow_close) | ((with_reducible show wpAny _ _ (truthy (Value.str (stq []) _)) _ _ _); k_dflt (refine truthy_nil ?_); (try dsimp only)) | walk1 | (dsimp only; first | ((with_reducible show wpAny _ _ (truthy (Value.str (stq []) _)) _ _ _); k_dflt (refine truthy_nil ?_); (try dsimp only)) | walk1) | (leave1; walk_say "STEP leave1"; try dsimp only) | fail "no step"))
          exact ⟨_, _, _, rfl, by assumption, by assumption, off, rfl, by rw [wrapL_snoc]; simpa using hR⟩
        | cons c0 cr =>
          (repeat' (first | (k_unfold; (try dsimp only)) | (k_end; wrow_close) | ((with_reducible show wpAny _ _ (truthy (Value.str (PySem.Str.mk (List.toArray (_ :: _))) _)) _ _ _); k_dflt (refine' truthy_tx (by omega) ?_); (try dsimp only)) | walk1 | (dsimp only; first | ((with_reducible show wpAny _ _ (truthy (Value.str (PySem.Str.mk (List.toArray (_ :: _))) _)) _ _ _); k_dflt (refine' truthy_tx (by omega) ?_); (try dsimp only)) | walk1) | (leave1; walk_say "STEP leave1"; try dsimp only) | fail "no step"))
          exact ⟨_, _, _, rfl, by assumption, by assumption, off, rfl, by rw [wrapL_snoc]; exact strs_snoc hR⟩
      case finc =>
        intro ys hR D h' tk' F' N' o1
        have hwl : ∀ w ∈ wrapL (y3 :: r3).dropLast, w.length ≤ 2407 := fun w hw => wrap_len (fun y hy => by have := g2.sz y (by rw [hr2]; exact .tail _ (List.dropLast_subset _ hy)); omega) w hw
        have hwn : (wrapL (y3 :: r3).dropLast).length ≤ 301 := by
          unfold wrapL
          rw [List.length_map]
          refine Nat.le_trans (List.length_filter_le _ _) ?_
          rw [List.length_dropLast]; simp only [List.length_cons] at hl2 ⊢; omega
        have hsw : ((wrapL (y3 :: r3).dropLast).map (·.length)).sum + (wrapL (y3 :: r3).dropLast).length ≤ 1048576 := by
          have := sum_le (f := (·.length)) (k := 2407) (l := wrapL (y3 :: r3).dropLast) hwl
          omega
        have hcl : (cat (wrapL (y3 :: r3).dropLast)).length ≤ 1048576 := by
          have h1 := cat_sum (wrapL (y3 :: r3).dropLast)
          omega
        (repeat' (first | (k_unfold; (try dsimp only)) | (k_end; wrow_close) | ((with_reducible show wpAny _ _ (subscriptTail (PySem.Expr.Name _ _) (PySem.Expr.UnaryOp _ _ _) (Value.ref _) (Value.int _ _)) _ _ _); (k_dflt (refine' item_last (by k_asm) (by walk_at "mine_mem") (by assumption) ?_); (try dsimp only))) | ((with_reducible show wpAny _ _ (call (Value.builtin "str.join") _ _) _ _ _); (k_dflt (refine' join0 (by (exact news_list (by k_asm) (by walk_at "mine_mem"))) (by (first | assumption | exact .cons _ _ (by assumption))) (by assumption) ?_); intro _ _; (try dsimp only))) | walk1 | (dsimp only; first | ((with_reducible show wpAny _ _ (subscriptTail (PySem.Expr.Name _ _) (PySem.Expr.UnaryOp _ _ _) (Value.ref _) (Value.int _ _)) _ _ _); (k_dflt (refine' item_last (by k_asm) (by walk_at "mine_mem") (by assumption) ?_); (try dsimp only))) | ((with_reducible show wpAny _ _ (call (Value.builtin "str.join") _ _) _ _ _); (k_dflt (refine' join0 (by (exact news_list (by k_asm) (by walk_at "mine_mem"))) (by (first | assumption | exact .cons _ _ (by assumption))) (by assumption) ?_); intro _ _; (try dsimp only))) | walk1) | (leave1; walk_say "STEP leave1"; try dsimp only) | fail "no step"))
        rename Fr h₀ L _ m => Ff
        rename News h₀ L _ _ => Nf
        exact con_endS (by rw [cat_wrap, text_end (by simp) hz3, text_all, hr2, textT]) hret Ff (fun p hp => Nf p (.tail _ (.tail _ (.tail _ (List.mem_append_right _ hp)))))
end
section

/-- a text ahead of runs -/
noncomputable def consR (y : List Nat) : List (List Nat) → List (List Nat)
  | [] => [y]
  | h :: t => (y ++ h) :: t
theorem consR_nil {ts : List (List Nat)} (h : ts ≠ []) : consR [] ts = ts := by
  cases ts with
  | nil => exact absurd rfl h
  | cons a r => rfl
theorem consR_app (a b : List Nat) (ts : List (List Nat)) : consR a (consR b ts) = consR (a ++ b) ts := by
  cases ts with
  | nil => rfl
  | cons h t => show (a ++ (b ++ h)) :: t = (a ++ b ++ h) :: t; rw [List.append_assoc]
theorem consR_ne (y : List Nat) (ts : List (List Nat)) : consR y ts ≠ [] := by cases ts <;> simp [consR]
noncomputable def stepC (c : Nat) (ts : List (List Nat)) : List (List Nat) := if c = 42 then [] :: ts else if c = 63 then consR [46] ts else consR (esc c) ts
theorem stepC_ne (c : Nat) (ts : List (List Nat)) : stepC c ts ≠ [] := by
  unfold stepC
  split
  · simp
  · split <;> exact consR_ne _ _
theorem headStep_ne (rs : List (List Nat)) (c : Nat) : headStep rs c ≠ [] := by
  unfold headStep
  split
  · simp
  · split <;> simp [addL]
theorem headL_ne (l : List Nat) : headL l ≠ [] := (headP l).ne
theorem addL_drop (rs : List (List Nat)) (z : List Nat) : (addL rs z).dropLast = rs.dropLast := by unfold addL; simp
theorem addL_last (rs : List (List Nat)) (z : List Nat) : (addL rs z).getLast?.getD [] = (rs.getLast?.getD []) ++ z := by unfold addL; simp
theorem last_join {rs : List (List Nat)} (h : rs ≠ []) : rs.dropLast ++ [rs.getLast?.getD []] = rs := by
  rw [List.getLast?_eq_some_getLast h]; exact List.dropLast_concat_getLast h
theorem head_fold : ∀ (l : List Nat) (rs : List (List Nat)), rs ≠ [] → l.foldl headStep rs = rs.dropLast ++ consR (rs.getLast?.getD []) (headL l)
  | [], rs, h => by
    show rs = rs.dropLast ++ [(rs.getLast?.getD []) ++ []]
    rw [List.append_nil, last_join h]
  | c :: l, rs, h => by
    have hl := headL_ne l
    have e0 : headL (c :: l) = (headStep [[]] c).dropLast ++ consR ((headStep [[]] c).getLast?.getD []) (headL l) := head_fold l _ (headStep_ne _ _)
    rw [List.foldl_cons, head_fold l _ (headStep_ne _ _), e0]
    unfold headStep
    by_cases h1 : c = 42
    · rw [if_pos h1, if_pos h1]
      simp only [List.dropLast_concat, List.getLast?_append, List.getLast?_singleton, Option.some_or, Option.getD_some]
      rw [consR_nil hl]
      show rs ++ headL l = rs.dropLast ++ (((rs.getLast?.getD []) ++ []) :: headL l)
      rw [List.append_nil]
      conv => lhs; rw [← last_join h]
      simp
    · rw [if_neg h1, if_neg h1]
      by_cases h2 : c = 63
      · rw [if_pos h2, if_pos h2, addL_drop, addL_last, addL_drop, addL_last]
        simp [consR_app]
      · rw [if_neg h2, if_neg h2, addL_drop, addL_last, addL_drop, addL_last]
        simp [consR_app]
theorem headL_cons (c : Nat) (l : List Nat) : headL (c :: l) = stepC c (headL l) := by
  show l.foldl headStep (headStep [[]] c) = _
  rw [head_fold l _ (headStep_ne _ _)]
  unfold headStep stepC
  by_cases h1 : c = 42
  · rw [if_pos h1, if_pos h1]
    show [[]] ++ consR [] (headL l) = _
    rw [consR_nil (headL_ne l)]; rfl
  · rw [if_neg h1, if_neg h1]
    by_cases h2 : c = 63
    · rw [if_pos h2, if_pos h2]; rfl
    · rw [if_neg h2, if_neg h2]; rfl
theorem joinR_nil {T : List Nat} {us : List (List Nat)} (h : us ≠ []) : joinR [[]] T us = consR T us := by
  cases us with
  | nil => exact absurd rfl h
  | cons a r => simp [joinR, consR]
theorem joinR_cons {ts : List (List Nat)} (T : List Nat) (us : List (List Nat)) (a : List Nat) (h : ts ≠ []) : joinR (a :: ts) T us = a :: joinR ts T us := by
  cases ts with
  | nil => exact absurd rfl h
  | cons b r => simp [joinR, List.getLast?_cons_cons]
theorem joinR_consR {ts : List (List Nat)} (y T : List Nat) (us : List (List Nat)) (h : ts ≠ []) : joinR (consR y ts) T us = consR y (joinR ts T us) := by
  cases ts with
  | nil => exact absurd rfl h
  | cons b r =>
    cases r with
    | nil => simp [joinR, consR]
    | cons b2 r => simp [joinR, consR, List.getLast?_cons_cons]
theorem joinR_step {ts : List (List Nat)} (c : Nat) (T : List Nat) (us : List (List Nat)) (h : ts ≠ []) : joinR (stepC c ts) T us = stepC c (joinR ts T us) := by
  unfold stepC
  split
  · exact joinR_cons T us [] h
  · split <;> exact joinR_consR _ T us h
theorem findL_cons {c : Nat} (r : List Nat) (h : c ≠ 91) : findL (c :: r) 91 0 = (findL r 91 0).map (· + 1) := by
  rw [findL_step (by simpa using h)]
  unfold findL
  simp
theorem runsL_cons {c : Nat} (r : List Nat) (h : c ≠ 91) : runsL (c :: r) = stepC c (runsL r) := by
  have hf := findL_cons r h
  cases e : findL r 91 0 with
  | none =>
    rw [e] at hf
    rw [runsL_none hf, runsL_none e, headL_cons]
  | some j =>
    rw [e] at hf
    have hf' : findL (c :: r) 91 0 = some (j + 1) := hf
    cases hs : shutAt (r.drop (j + 1)) with
    | none => rw [runsL_open hf' hs, runsL_open e hs, List.take_succ_cons, headL_cons, List.drop_succ_cons, joinR_step c _ _ (headL_ne _)]
    | some i => rw [runsL_shut hf' hs, runsL_shut e hs, List.take_succ_cons, headL_cons, List.drop_succ_cons, joinR_step c _ _ (headL_ne _)]
theorem findL_91 (r : List Nat) : findL (91 :: r) 91 0 = some 0 := by unfold findL; simp [List.findIdx?_cons]
theorem runsL_91o {r : List Nat} (hs : shutAt r = none) : runsL (91 :: r) = consR [92, 91] (runsL r) := by
  rw [runsL_open (findL_91 r) hs]
  exact joinR_nil (runsP _ _ (Nat.le_refl _)).ne
theorem runsL_91s {r : List Nat} {i : Nat} (hs : shutAt r = some i) : runsL (91 :: r) = consR (brk (r.take i)) (runsL (r.drop (i + 1))) := by
  rw [runsL_shut (findL_91 r) hs]
  exact joinR_nil (runsP _ _ (Nat.le_refl _)).ne
theorem runsL_nil : runsL [] = [[]] := by rw [runsL_none (by rfl)]; rfl
theorem runsL_ne (x : List Nat) : runsL x ≠ [] := (runsP _ _ (Nat.le_refl _)).ne
end
section

/-- the runs of parts -/
noncomputable def runsOf : List Pt → List (List Nat)
  | [] => [[]]
  | none :: r => [] :: runsOf r
  | some y :: r => consR y (runsOf r)
theorem runsOf_ne : ∀ ps : List Pt, runsOf ps ≠ []
  | [] => by simp [runsOf]
  | none :: r => by simp [runsOf]
  | some y :: r => consR_ne _ _
/-- after a star: runs are alike but for empty ones -/
structure AltT (T R : List (List Nat)) : Prop where
  neT : T ≠ []
  neR : R ≠ []
  mid : midL T.dropLast = midL R.dropLast
  last : T.getLast? = R.getLast?
inductive AltF : List (List Nat) → List (List Nat) → Prop
  | one (h : List Nat) : AltF [h] [h]
  | more (h : List Nat) {T R : List (List Nat)} : AltT T R → AltF (h :: T) (h :: R)
theorem midL_cons (y : List Nat) (ts : List (List Nat)) : midL (y :: ts) = (if y = [] then [] else [40, 63, 62, 46, 42, 63] ++ y ++ [41]) ++ midL ts := by
  unfold midL
  cases y with
  | nil => rfl
  | cons a r => simp
theorem AltF.toT {T R : List (List Nat)} (h : AltF T R) : AltT T R := by
  cases h with
  | one h => exact ⟨by simp, by simp, rfl, rfl⟩
  | more h g =>
    rename_i T R
    refine ⟨by simp, by simp, ?_, ?_⟩
    · rw [List.dropLast_cons_of_ne_nil g.neT, List.dropLast_cons_of_ne_nil g.neR, midL_cons, midL_cons, g.mid]
    · rw [List.getLast?_cons, List.getLast?_cons, g.last]
theorem AltF.consR {T R : List (List Nat)} (y : List Nat) (h : AltF T R) : AltF (consR y T) (consR y R) := by
  cases h with
  | one h => exact .one _
  | more h g => exact .more _ g
theorem AltT.star {T R : List (List Nat)} (h : AltT T R) : AltT T ([] :: R) := by
  refine ⟨h.neT, by simp, ?_, ?_⟩
  · rw [List.dropLast_cons_of_ne_nil h.neR, midL_cons, if_pos rfl, h.mid]; rfl
  · rw [List.getLast?_cons, h.last]
    cases e : R.getLast? with
    | none => exact absurd (List.getLast?_eq_none_iff.mp e) h.neR
    | some z => rfl
theorem AltF.text {T R : List (List Nat)} (h : AltF T R) : textB T = textB R := by
  cases h with
  | one h => rfl
  | more h g =>
    rename_i T R
    have e : ∀ (U : List (List Nat)), U ≠ [] → textB (h :: U) = h ++ (midL U.dropLast ++ [46, 42] ++ (U.getLast?.getD [])) := fun U hU => if_neg hU
    rw [e T g.neT, e R g.neR, g.mid, g.last]
/-- the claim for a state: behind a star or not -/
noncomputable def Alt (b : Bool) (T R : List (List Nat)) : Prop := if b then AltT T R else AltF T R
theorem Alt.ofF {b : Bool} {T R : List (List Nat)} (h : AltF T R) : Alt b T R := by
  cases b
  · exact h
  · exact h.toT
theorem plain_alt : ∀ (n : Nat) (b : Bool) (x : List Nat), x.length ≤ n → Alt b (runsOf (transL b x)) (runsL x)
  | _, b, [], _ => by rw [tr_nil, runsL_nil]; exact .ofF (.one [])
  | 0, _, _ :: _, h => absurd h (by simp)
  | n + 1, b, c :: r, h => by
    have hr : r.length ≤ n := by simpa using h
    by_cases h1 : c = 42
    · subst h1
      have g : AltT (runsOf (transL true r)) (runsL r) := plain_alt n true r hr
      rw [tr_star, runsL_cons r (by decide)]
      cases b with
      | true => exact g.star
      | false => exact AltF.more [] g
    · by_cases h3 : c = 91
      · subst h3
        cases hs : shutAt r with
        | none =>
          rw [tr_open b hs, runsL_91o hs]
          exact .ofF (AltF.consR _ (plain_alt n false r hr))
        | some j =>
          rw [tr_shut b hs, runsL_91s hs]
          exact .ofF (AltF.consR _ (plain_alt n false _ (by rw [List.length_drop]; omega)))
      · by_cases h2 : c = 63
        · subst h2
          rw [tr_any, runsL_cons r (by decide)]
          exact .ofF (AltF.consR _ (plain_alt n false r hr))
        · rw [tr_else b r h1 h2 h3, runsL_cons r h3]
          unfold stepC
          rw [if_neg h1, if_neg h2]
          exact .ofF (AltF.consR _ (plain_alt n false r hr))
/-- joined parts told by their runs -/
structure PtOk (ps : List Pt) : Prop where
  adj : NoAdj ps
  ne : ∀ y, some y ∈ ps → y ≠ []
theorem PtOk.tail {p : Pt} {ps : List Pt} (h : PtOk (p :: ps)) : PtOk ps :=
  ⟨fun i hi => by have := h.adj (i + 1) (by simpa using hi); simpa using this, fun y hy => h.ne y (.tail _ hy)⟩
theorem runsOf_lead : ∀ ps : List Pt, runsOf ps = (lead ps).flatten :: (match after ps with | none :: r => runsOf r | _ => [])
  | [] => rfl
  | none :: r => rfl
  | some y :: r => by
    show consR y (runsOf r) = _
    rw [runsOf_lead r]; rfl
theorem ok_after : ∀ {ps : List Pt}, PtOk ps → PtOk (after ps)
  | [], h => h
  | none :: _, h => h
  | some _ :: r, h => ok_after (ps := r) h.tail
theorem lead_ne {ps : List Pt} (h : PtOk (none :: ps)) (hne : ps ≠ []) : (lead ps).flatten ≠ [] := by
  cases ps with
  | nil => exact absurd rfl hne
  | cons p r =>
    cases p with
    | none => exact absurd rfl (h.adj 0 rfl)
    | some y =>
      have := h.ne y (.tail _ (.head _))
      simp [lead, this]
theorem segs_text : ∀ (n : Nat) (r : List Pt), r.length ≤ n → PtOk (none :: r) → (segs (none :: r)).flatten = midL (runsOf r).dropLast ++ [46, 42] ++ ((runsOf r).getLast?.getD [])
  | n, r, hn, h => by
    rw [segs]
    by_cases h1 : r = []
    · subst h1; rfl
    · rw [if_neg h1, runsOf_lead r]
      rcases after_cases r with h2 | ⟨r', h2⟩
      · rw [if_pos h2, h2]
        simp [midL]
      · rw [if_neg (by rw [h2]; simp), h2]
        have hl := after_len r
        rw [h2, List.length_cons] at hl
        cases n with
        | zero => omega
        | succ n =>
          have hok : PtOk (none :: r') := h2 ▸ ok_after h.tail
          have ih := segs_text n r' (by omega) hok
          rw [List.flatten_cons, ih]
          show _ = midL ((lead r).flatten :: runsOf r').dropLast ++ [46, 42] ++ (((lead r).flatten :: runsOf r').getLast?.getD [])
          rw [List.dropLast_cons_of_ne_nil (runsOf_ne r'), midL_cons, if_neg (lead_ne h h1), List.getLast?_cons]
          cases e : (runsOf r').getLast? with
          | none => exact absurd (List.getLast?_eq_none_iff.mp e) (runsOf_ne r')
          | some z => simp
theorem joinL_text {ps : List Pt} (h : PtOk ps) : joinL ps = textB (runsOf ps) := by
  unfold joinL
  rw [List.flatten_append, runsOf_lead ps]
  rcases after_cases ps with h2 | ⟨r, h2⟩
  · rw [h2]
    show _ ++ (segs []).flatten = (lead ps).flatten
    rw [segs_nil]; simp
  · rw [h2, segs_text _ r (Nat.le_refl _) (h2 ▸ ok_after h)]
    exact (if_neg (runsOf_ne r)).symm
end
section

theorem brk_ne (y : List Nat) : brk y ≠ [] := by
  unfold brk
  split
  · simp
  · split <;> simp
theorem esc_ne (c : Nat) : esc c ≠ [] := by unfold esc; split <;> simp
theorem tr_ne : ∀ (n : Nat) (b : Bool) (x : List Nat), x.length ≤ n → ∀ y, some y ∈ transL b x → y ≠ []
  | _, b, [], _, y, hy => by rw [tr_nil] at hy; cases hy
  | 0, _, _ :: _, h, _, _ => absurd h (by simp)
  | n + 1, b, c :: r, h, y, hy => by
    have hr : r.length ≤ n := by simpa using h
    by_cases h1 : c = 42
    · subst h1
      rw [tr_star] at hy
      rcases List.mem_append.mp hy with hy | hy
      · cases b <;> simp at hy
      · exact tr_ne n true r hr y hy
    · by_cases h3 : c = 91
      · subst h3
        cases hs : shutAt r with
        | none =>
          rw [tr_open b hs] at hy
          rcases List.mem_cons.mp hy with e | hy
          · cases e; simp
          · exact tr_ne n false r hr y hy
        | some j =>
          rw [tr_shut b hs] at hy
          rcases List.mem_cons.mp hy with e | hy
          · cases e; exact brk_ne _
          · exact tr_ne n false _ (by rw [List.length_drop]; omega) y hy
      · by_cases h2 : c = 63
        · subst h2
          rw [tr_any] at hy
          rcases List.mem_cons.mp hy with e | hy
          · cases e; simp
          · exact tr_ne n false r hr y hy
        · rw [tr_else b r h1 h2 h3] at hy
          rcases List.mem_cons.mp hy with e | hy
          · cases e; exact esc_ne _
          · exact tr_ne n false r hr y hy
theorem plain_join (x : List Nat) : joinT (transL false x) = textT (runsL x) := by
  have h : PtOk (transL false x) := ⟨(trF _ false x (Nat.le_refl _)).adj, tr_ne _ false x (Nat.le_refl _)⟩
  have g : AltF (runsOf (transL false x)) (runsL x) := plain_alt _ false x (Nat.le_refl _)
  unfold joinT textT
  rw [joinL_text h, g.text]
/-- rows in cons form: b tells whether the last was a star -/
noncomputable def rowC : Bool → List Pt → List Pt
  | _, [] => []
  | b, none :: r => if b then rowC true r else none :: rowC true r
  | b, some y :: r => if ptText y = [] then rowC b r else some (ptText y) :: rowC false r
theorem row_fold : ∀ (ps : List Pt) (rs : List Pt), ps.foldl rowStep rs = rs ++ rowC (lastS rs) ps
  | [], rs => by simp [rowC]
  | none :: r, rs => by
    rw [List.foldl_cons, row_fold r]
    show (rowStep rs none) ++ rowC (lastS (rowStep rs none)) r = rs ++ (if lastS rs = true then rowC true r else none :: rowC true r)
    unfold rowStep
    cases e : lastS rs with
    | true => rw [if_pos rfl, e, if_pos rfl]
    | false => rw [if_neg (by simp), lastS_none, if_neg (by simp), List.append_assoc]; rfl
  | some y :: r, rs => by
    rw [List.foldl_cons, row_fold r]
    show (rowStep rs (some y)) ++ rowC (lastS (rowStep rs (some y))) r = rs ++ (if ptText y = [] then rowC (lastS rs) r else some (ptText y) :: rowC false r)
    unfold rowStep
    by_cases h : ptText y = []
    · simp only [if_pos h]
    · simp only [if_neg h]; rw [lastS_some, List.append_assoc]; rfl
theorem rowL_eq (ps : List Pt) : rowL ps = rowC false ps := by
  unfold rowL; rw [row_fold]; rfl
theorem rowC_ok : ∀ (b : Bool) (ps : List Pt), PtOk (rowC b ps) ∧ (b = true → (rowC b ps)[0]? ≠ some none)
  | b, [] => ⟨⟨fun i h => by simp [rowC] at h, fun y h => by simp [rowC] at h⟩, fun _ => by simp [rowC]⟩
  | b, none :: r => by
    have g := rowC_ok true r
    cases b with
    | true => exact g
    | false => exact ⟨⟨noAdj_cons g.1.adj fun _ => g.2 rfl, fun y hy => (List.mem_cons.mp hy).elim (fun e => nomatch e) (g.1.ne y)⟩, fun h => nomatch h⟩
  | b, some y :: r => by
    show PtOk (if ptText y = [] then rowC b r else some (ptText y) :: rowC false r) ∧ _
    have e : rowC b (some y :: r) = if ptText y = [] then rowC b r else some (ptText y) :: rowC false r := rfl
    rw [e]
    by_cases h : ptText y = []
    · rw [if_pos h]; exact rowC_ok b r
    · rw [if_neg h]
      have g := rowC_ok false r
      exact ⟨⟨noAdj_cons g.1.adj (fun h => nomatch h), fun z hz => (List.mem_cons.mp hz).elim (fun e => by cases e; exact h) (g.1.ne z)⟩, fun _ => by simp⟩
theorem rowC_text (b : Bool) (y : List Nat) (r : List Pt) (R : List (List Nat)) (h1 : ptText y = [] → Alt b (runsOf (rowC b r)) R) (h2 : AltF (runsOf (rowC false r)) R) : Alt b (runsOf (rowC b (some y :: r))) (consR (ptText y) R) := by
  have e : rowC b (some y :: r) = if ptText y = [] then rowC b r else some (ptText y) :: rowC false r := rfl
  rw [e]
  by_cases h : ptText y = []
  · rw [if_pos h, h]
    have hR : R ≠ [] := h2.toT.neR
    rw [consR_nil hR]; exact h1 h
  · rw [if_neg h]; exact .ofF (h2.consR _)
end
section

noncomputable def fold1 (c : Nat) : List Nat := if isB1 c then [] else (b3 c).cps.toList
theorem prep_nil : prep [] = [] := rfl
theorem prep_cons (c : Nat) (r : List Nat) : prep (c :: r) = fold1 c ++ prep r := by
  unfold prep fold1
  rw [List.filter_cons]
  cases h : isB1 c <;> simp
theorem prep_app : ∀ a b : List Nat, prep (a ++ b) = prep a ++ prep b
  | [], _ => rfl
  | c :: r, b => by rw [List.cons_append, prep_cons, prep_cons, prep_app r b, List.append_assoc]
theorem Zs_b1 : ∀ c ∈ Zs, isB1 c = false := by
  have : Zs.all (fun c => !isB1 c) = true := by decide +kernel
  intro c hc
  have := List.all_eq_true.mp this c hc
  simpa using this
theorem fold_Z {c : Nat} (h : c ∈ Zs) : fold1 c = [c] := by
  unfold fold1; rw [Zs_b1 c h, b3_Z c h]; rfl
theorem fold_890 : fold1 890 = [32, 953] := by decide +kernel
theorem fold_13255 : fold1 13255 = [99, 111, 46] := by decide +kernel
theorem fold_nZ {c : Nat} (h : c ∉ Zs) (h2 : c ≠ 890) (h3 : c ≠ 13255) : ∀ d ∈ fold1 c, d ∉ Zs := by
  intro d hd
  unfold fold1 at hd
  cases hb : isB1 c with
  | true => rw [hb, if_pos rfl] at hd; cases hd
  | false => rw [hb, if_neg (by simp)] at hd; exact b3_notZ h h2 h3 d hd
theorem lowerAt_ne (c : Nat) : PySem.Unicode.lowerAt #[c] 0 ≠ [] := by
  have hs : PySem.UnicodeData.severalLower.all (fun q => !q.2.isEmpty) = true := by decide +kernel
  unfold PySem.Unicode.lowerAt
  simp only [List.getElem?_toArray, List.getElem?_cons_zero]
  split
  · simp
  · unfold PySem.Unicode.lowerOf PySem.Unicode.image
    split
    · rename_i cs hcs
      have := PySem.StrLaws.lookup_all (p := fun l => !l.isEmpty) _ c cs hs hcs
      intro e; rw [e] at this; cases this
    · simp
theorem fold_ne {c : Nat} (h : isB1 c = false) : fold1 c ≠ [] := by
  unfold fold1
  rw [h, if_neg (by simp)]
  unfold b3
  split
  · rename_i kv hk
    have hm := List.mem_of_find?_eq_some hk
    have : tab88.all (fun kv => !kv.2.cps.toList.isEmpty) = true := by decide +kernel
    have := List.all_eq_true.mp this kv hm
    intro e; rw [e] at this; cases this
  · rw [lower_one]; exact lowerAt_ne c
theorem Zs_spec : Zs.all (fun c => c == 33 || spL.contains c) = true ∧ spL.all (fun c => Zs.contains c) = true := by decide
theorem esc_nZ {d : Nat} (h : d ∉ Zs) : esc d = [d] := by
  unfold esc
  rw [isSpec_eq, if_neg]
  intro e
  have := List.all_eq_true.mp Zs_spec.2 d (by simpa using e)
  exact h (by simpa using this)
theorem esc_Z {d : Nat} (h : d ∈ Zs) (h2 : d ≠ 33) : esc d = [92, d] := by
  unfold esc
  rw [isSpec_eq, if_pos]
  have := List.all_eq_true.mp Zs_spec.1 d h
  simpa [h2] using this
theorem esc_33 : esc 33 = [33] := by decide +kernel
theorem runs_one {d : Nat} (z : List Nat) (h1 : d ≠ 42) (h2 : d ≠ 63) (h3 : d ≠ 91) : runsL (d :: z) = consR (esc d) (runsL z) := by
  rw [runsL_cons z h3]; unfold stepC; rw [if_neg h1, if_neg h2]
theorem runs_app : ∀ (ds z : List Nat), (∀ d ∈ ds, d ∉ Zs) → runsL (ds ++ z) = consR ds (runsL z)
  | [], z, _ => (consR_nil (runsL_ne z)).symm
  | d :: ds, z, h => by
    have hd := h d (.head _)
    have hZ : ∀ q, q ∈ Zs → d ≠ q := fun q hq e => hd (e ▸ hq)
    rw [List.cons_append, runs_one _ (hZ 42 (by decide)) (hZ 63 (by decide)) (hZ 91 (by decide)), runs_app ds z fun q hq => h q (.tail _ hq), esc_nZ hd, consR_app]; rfl
theorem rare_none {y : List Nat} (h1 : y ≠ [890]) (h2 : y ≠ [13255]) : ptText y = prep y := by
  unfold ptText rareL; rw [if_neg h1, if_neg h2]; rfl
theorem sign_runs {c : Nat} (z : List Nat) (h1 : c ≠ 42) (h2 : c ≠ 63) (h3 : c ≠ 91) : runsL (fold1 c ++ z) = consR (ptText (esc c)) (runsL z) := by
  by_cases hZ : c ∈ Zs
  · rw [fold_Z hZ, List.singleton_append, runs_one z h1 h2 h3]
    congr 1
    by_cases h33 : c = 33
    · subst h33
      rw [esc_33, rare_none (by decide) (by decide), prep_cons, fold_Z hZ, prep_nil]; rfl
    · rw [esc_Z hZ h33, rare_none (by simp) (by simp), prep_cons, prep_cons, fold_Z hZ, fold_Z (by decide : 92 ∈ Zs), prep_nil]; rfl
  · by_cases h890 : c = 890
    · subst h890
      rw [fold_890, esc_nZ hZ]
      show runsL (32 :: 953 :: z) = consR [92, 32, 953] (runsL z)
      rw [runs_one _ (by decide) (by decide) (by decide), runs_one _ (by decide) (by decide) (by decide), consR_app, esc_Z (by decide) (by decide), esc_nZ (by decide)]; rfl
    · by_cases h13 : c = 13255
      · subst h13
        rw [fold_13255, esc_nZ hZ]
        show runsL (99 :: 111 :: 46 :: z) = consR [99, 111, 92, 46] (runsL z)
        rw [runs_one _ (by decide) (by decide) (by decide), runs_one _ (by decide) (by decide) (by decide), runs_one _ (by decide) (by decide) (by decide), consR_app, consR_app, esc_Z (d := 46) (by decide) (by decide), esc_nZ (d := 99) (by decide), esc_nZ (d := 111) (by decide)]; rfl
      · rw [esc_nZ hZ, rare_none (by simpa using h890) (by simpa using h13), prep_cons, prep_nil, List.append_nil]
        exact runs_app _ z (fold_nZ hZ h890 h13)
end
section

noncomputable def fi93 (l : List Nat) : Option Nat := l.findIdx? (· == 93)
theorem shut_fi (r : List Nat) : shutAt r = (fi93 (r.drop (sc0 r + 1))).map (· + (sc0 r + 1)) := by rw [shutAt_find, stL_len]; rfl
theorem fi_app {a : List Nat} (b : List Nat) (h : 93 ∉ a) : fi93 (a ++ b) = (fi93 b).map (· + a.length) := by
  unfold fi93
  rw [List.findIdx?_append]
  have : a.findIdx? (· == 93) = none := List.findIdx?_eq_none_iff.mpr fun x hx => by
    have : x ≠ 93 := fun e => h (e ▸ hx)
    simpa using this
  rw [this]; rfl
theorem fold_no {c q : Nat} (hq : q ∈ Zs) (h32 : q ≠ 32) (h46 : q ≠ 46) (hc : c ≠ q) : q ∉ fold1 c := by
  by_cases hZ : c ∈ Zs
  · rw [fold_Z hZ]; simpa using fun e => hc e.symm
  · by_cases h890 : c = 890
    · subst h890; rw [fold_890]
      intro h; simp at h
      rcases h with h | h
      · exact h32 h
      · subst h; exact absurd hq (by decide)
    · by_cases h13 : c = 13255
      · subst h13; rw [fold_13255]
        intro h; simp at h
        rcases h with h | h | h
        · subst h; exact absurd hq (by decide)
        · subst h; exact absurd hq (by decide)
        · exact h46 h
      · exact fun h => fold_nZ hZ h890 h13 q h hq
theorem fi_prep : ∀ v : List Nat, fi93 (prep v) = (fi93 v).map (fun m => (prep (v.take m)).length)
  | [] => rfl
  | c :: v => by
    rw [prep_cons]
    by_cases h : c = 93
    · subst h
      rw [fold_Z (by decide)]
      simp [fi93, List.findIdx?_cons, prep_nil]
    · rw [fi_app _ (fold_no (by decide) (by decide) (by decide) h), fi_prep v]
      have e : fi93 (c :: v) = (fi93 v).map (· + 1) := by
        unfold fi93; rw [List.findIdx?_cons, if_neg (by simpa using h)]
      rw [e, Option.map_map, Option.map_map]
      congr 1
      funext m
      show (prep (v.take m)).length + (fold1 c).length = (prep ((c :: v).take (m + 1))).length
      rw [List.take_succ_cons, prep_cons, List.length_append]; omega
/-- what the sign ahead of a b1 sign is -/
noncomputable def Good (l : List Nat) : Prop := ∀ i c d, l[i]? = some c → l[i + 1]? = some d → isB1 d = true → isB1 c = false ∧ c ≠ 91 ∧ c ≠ 33
theorem Good.tail {c : Nat} {l : List Nat} (h : Good (c :: l)) : Good l := fun i a b h1 h2 h3 => h (i + 1) a b (by simpa using h1) (by simpa using h2) h3
theorem Good.drop {l : List Nat} (h : Good l) : ∀ n, Good (l.drop n) := fun n i a b h1 h2 h3 => by
  rw [List.getElem?_drop] at h1 h2
  exact h (n + i) a b h1 h2 h3
theorem Good.no91 {d : Nat} {l : List Nat} (h : Good (91 :: d :: l)) : isB1 d = false := by
  cases e : isB1 d with
  | false => rfl
  | true => exact absurd rfl (h 0 91 d rfl rfl e).2.1
theorem Good.no33 {d : Nat} {l : List Nat} (h : Good (33 :: d :: l)) : isB1 d = false := by
  cases e : isB1 d with
  | false => rfl
  | true => exact absurd rfl (h 0 33 d rfl rfl e).2.2
/-- the first sign, folded -/
theorem first_q {c q : Nat} (r : List Nat) (hb : isB1 c = false) (hq : q ∈ Zs) (h32 : q ≠ 32) (h46 : q ≠ 46) : (prep (c :: r))[0]? = some q ↔ c = q := by
  rw [prep_cons]
  by_cases h : c = q
  · subst h; rw [fold_Z hq]; simp
  · have hne := fold_ne hb
    have hno := fold_no hq h32 h46 h
    cases e : fold1 c with
    | nil => exact absurd e hne
    | cons a t =>
      rw [e] at hno
      simp only [List.cons_append, List.getElem?_cons_zero, Option.some.injEq]
      constructor
      · rintro rfl; exact absurd (List.Mem.head _) hno
      · intro e2; exact absurd e2 h
theorem sc0_prep {r : List Nat} (h : Good (91 :: r)) : sc0 (prep r) = sc0 r := by
  cases r with
  | nil => rfl
  | cons c r =>
    have hb := h.no91
    have := first_q (q := 33) r hb (by decide) (by decide) (by decide)
    unfold sc0
    by_cases hc : c = 33
    · rw [if_pos (this.mpr hc), if_pos (by simpa using hc)]
    · rw [if_neg (fun e => hc (this.mp e)), if_neg (by simpa using hc)]
theorem drop_shut {c : Nat} (a b : List Nat) (hb : isB1 c = false) (k : Nat) (hk : a.length = k) : ∃ t, 93 ∉ t ∧ (a ++ (fold1 c ++ b)).drop (k + 1) = t ++ b ∧ t.length + 1 = (fold1 c).length := by
  have hne := fold_ne hb
  cases e : fold1 c with
  | nil => exact absurd e hne
  | cons d t =>
    refine ⟨t, ?_, ?_, rfl⟩
    · by_cases hc : c = 93
      · subst hc; rw [fold_Z (by decide)] at e; cases e; simp
      · have := fold_no (q := 93) (by decide) (by decide) (by decide) hc
        rw [e] at this
        exact fun h => this (.tail _ h)
    · subst hk
      rw [List.drop_append, List.drop_of_length_le (by omega), show a.length + 1 - a.length = 1 by omega]; rfl
theorem shut_prep {r : List Nat} (h : Good (91 :: r)) : shutAt (prep r) = (shutAt r).map (fun j => (prep (r.take j)).length) := by
  have hs := sc0_prep h
  rw [shut_fi, shut_fi r, hs, Option.map_map]
  cases r with
  | nil => rfl
  | cons c r =>
    have hb := h.no91
    by_cases hc : c = 33
    · subst hc
      have hk : sc0 (33 :: r) = 1 := rfl
      rw [hk]
      cases r with
      | nil => rfl
      | cons c2 v =>
        have hb2 := h.tail.no33
        obtain ⟨t, ht, hd, hl⟩ := drop_shut [33] (prep v) hb2 1 rfl
        have e : prep (33 :: c2 :: v) = [33] ++ (fold1 c2 ++ prep v) := by rw [prep_cons, prep_cons, fold_Z (by decide)]
        rw [e, hd, fi_app _ ht, fi_prep, Option.map_map, Option.map_map]
        show (fi93 v).map _ = (fi93 v).map _
        congr 1
        funext m
        show (prep (v.take m)).length + t.length + 2 = (prep ((33 :: c2 :: v).take (m + 2))).length
        rw [List.take_succ_cons, List.take_succ_cons, prep_cons, prep_cons, fold_Z (by decide), List.length_append, List.length_append]
        simp; omega
    · have hk : sc0 (c :: r) = 0 := by unfold sc0; rw [if_neg (by simpa using hc)]
      rw [hk]
      obtain ⟨t, ht, hd, hl⟩ := drop_shut [] (prep r) hb 0 rfl
      have e : prep (c :: r) = [] ++ (fold1 c ++ prep r) := by rw [prep_cons]; rfl
      rw [e, hd, fi_app _ ht, fi_prep, Option.map_map, Option.map_map]
      show (fi93 r).map _ = (fi93 r).map _
      congr 1
      funext m
      show (prep (r.take m)).length + t.length + 1 = (prep ((c :: r).take (m + 1))).length
      rw [List.take_succ_cons, prep_cons, List.length_append]
      omega
end
section

theorem flat_no {y : List Nat} (h : ∀ c ∈ y, [38, 124, 126, 92].contains c = false) : y.flatMap escX = y := by
  induction y with
  | nil => rfl
  | cons c r ih =>
    have hx : escX c = [c] := by unfold escX; rw [h c (.head _)]; rfl
    rw [List.flatMap_cons, hx, ih fun d hd => h d (.tail _ hd)]; rfl
theorem fold_flat (c : Nat) : (fold1 c).flatMap escX = prep (escX c) := by
  by_cases hc : [38, 124, 126, 92].contains c = true
  · have hx : escX c = [92, c] := by unfold escX; rw [if_pos hc]
    have hZ : c ∈ Zs := by
      have : ([38, 124, 126, 92] : List Nat).all (fun c => Zs.contains c) = true := by decide
      have := List.all_eq_true.mp this c (by simpa using hc)
      simpa using this
    rw [hx, fold_Z hZ, prep_cons, prep_cons, fold_Z hZ, fold_Z (by decide : 92 ∈ Zs), prep_nil]
    show escX c ++ [] = _
    rw [hx]; rfl
  · have hx : escX c = [c] := by unfold escX; rw [if_neg hc]
    rw [hx, prep_cons, prep_nil, List.append_nil]
    refine flat_no fun d hd => ?_
    cases e : [38, 124, 126, 92].contains d with
    | false => rfl
    | true =>
      exfalso
      have hm : d ∈ ([38, 124, 126, 92] : List Nat) := by simpa using e
      have hdc : c ≠ d := fun q => hc (q ▸ e)
      have hdZ : d ∈ Zs ∧ d ≠ 32 ∧ d ≠ 46 := by
        have : ([38, 124, 126, 92] : List Nat).all (fun c => Zs.contains c && c != 32 && c != 46) = true := by decide
        have := List.all_eq_true.mp this d hm
        simpa [and_assoc] using this
      exact fold_no hdZ.1 hdZ.2.1 hdZ.2.2 hdc hd
theorem prep_flat (y : List Nat) : prep (y.flatMap escX) = (prep y).flatMap escX := by
  induction y with
  | nil => rfl
  | cons c r ih => rw [List.flatMap_cons, prep_app, ih, prep_cons, List.flatMap_append, fold_flat]
theorem escB_first {c q : Nat} (r : List Nat) (hq : [38, 124, 126, 92].contains q = false) (h92 : q ≠ 92) : (escB (c :: r))[0]? = some q ↔ c = q := by
  rw [escB_eq, List.flatMap_cons]
  unfold escX
  split
  · rename_i h
    simp only [List.cons_append, List.getElem?_cons_zero, Option.some.injEq]
    constructor
    · intro e; exact absurd e.symm h92
    · intro e; rw [e, hq] at h; cases h
  · simp
theorem list_first {l : List Nat} {q : Nat} (h : l[0]? = some q) : ∃ r, l = q :: r := by
  cases l with
  | nil => cases h
  | cons a r => cases h; exact ⟨r, rfl⟩
theorem prep_brk {c : Nat} (r : List Nat) (hb : isB1 c = false) : prep (brk (c :: r)) = brk (prep (c :: r)) := by
  have hf : ∀ q : Nat, q ∈ [33, 94, 91] → ((escB (prep (c :: r)))[0]? = some q ↔ c = q) := by
    intro q hq
    have h1 : q ∈ Zs ∧ q ≠ 32 ∧ q ≠ 46 ∧ [38, 124, 126, 92].contains q = false ∧ q ≠ 92 := by
      have : ([33, 94, 91] : List Nat).all (fun q => Zs.contains q && q != 32 && q != 46 && !([38, 124, 126, 92].contains q) && q != 92) = true := by decide
      have := List.all_eq_true.mp this q hq
      simp only [Bool.and_eq_true, bne_iff_ne, ne_eq, Bool.not_eq_true'] at this
      exact ⟨by simpa using this.1.1.1.1, this.1.1.1.2, this.1.1.2, this.1.2, this.2⟩
    rw [← first_q r hb h1.1 h1.2.1 h1.2.2.1]
    cases e : prep (c :: r) with
    | nil =>
      rw [prep_cons] at e
      exact absurd (List.append_eq_nil_iff.mp e).1 (fold_ne hb)
    | cons a t => rw [escB_first t h1.2.2.2.1 h1.2.2.2.2]; simp
  have he : prep (escB (c :: r)) = escB (prep (c :: r)) := by rw [escB_eq, escB_eq, prep_flat]
  have hg : ∀ q : Nat, q ∈ [33, 94, 91] → ((escB (c :: r))[0]? = some q ↔ c = q) := by
    intro q hq
    have h1 : [38, 124, 126, 92].contains q = false ∧ q ≠ 92 := by
      have : ([33, 94, 91] : List Nat).all (fun q => !([38, 124, 126, 92].contains q) && q != 92) = true := by decide
      have := List.all_eq_true.mp this q hq
      simp only [Bool.and_eq_true, bne_iff_ne, ne_eq, Bool.not_eq_true'] at this
      exact this
    exact escB_first r h1.1 h1.2
  have p91 : ∀ l, prep (91 :: l) = 91 :: prep l := fun l => by rw [prep_cons, fold_Z (by decide)]; rfl
  have p94 : ∀ l, prep (94 :: l) = 94 :: prep l := fun l => by rw [prep_cons, fold_Z (by decide)]; rfl
  have p92 : ∀ l, prep (92 :: l) = 92 :: prep l := fun l => by rw [prep_cons, fold_Z (by decide)]; rfl
  have p93 : prep [93] = [93] := by rw [prep_cons, fold_Z (by decide)]; rfl
  unfold brk
  by_cases h33 : c = 33
  · rw [if_pos ((hg 33 (by decide)).mpr h33), if_pos ((hf 33 (by decide)).mpr h33)]
    obtain ⟨t, ht⟩ := list_first ((hg 33 (by decide)).mpr h33)
    rw [← he, ht]
    show prep (91 :: 94 :: (t ++ [93])) = 91 :: 94 :: ((prep (33 :: t)).drop 1 ++ [93])
    rw [p91, p94, prep_app, p93, prep_cons, fold_Z (by decide)]; rfl
  · rw [if_neg (fun e => h33 ((hg 33 (by decide)).mp e)), if_neg (fun e => h33 ((hf 33 (by decide)).mp e))]
    by_cases h2 : c = 94 ∨ c = 91
    · rw [if_pos (h2.imp (hg 94 (by decide)).mpr (hg 91 (by decide)).mpr), if_pos (h2.imp (hf 94 (by decide)).mpr (hf 91 (by decide)).mpr), ← he]
      show prep (91 :: 92 :: (escB (c :: r) ++ [93])) = 91 :: 92 :: (prep (escB (c :: r)) ++ [93])
      rw [p91, p92, prep_app, p93]
    · rw [if_neg (fun e => h2 (e.imp (hg 94 (by decide)).mp (hg 91 (by decide)).mp)), if_neg (fun e => h2 (e.imp (hf 94 (by decide)).mp (hf 91 (by decide)).mp)), ← he]
      show prep (91 :: (escB (c :: r) ++ [93])) = 91 :: (prep (escB (c :: r)) ++ [93])
      rw [p91, prep_app, p93]
theorem brk_hd (y : List Nat) : ∃ l, brk y = 91 :: l := by
  unfold brk
  split
  · exact ⟨_, rfl⟩
  · split <;> exact ⟨_, rfl⟩
theorem ptText_brk {c : Nat} (r : List Nat) (hb : isB1 c = false) : ptText (brk (c :: r)) = brk (prep (c :: r)) := by
  obtain ⟨l, hl⟩ := brk_hd (c :: r)
  rw [rare_none (by rw [hl]; simp) (by rw [hl]; simp), prep_brk r hb]
theorem row_alt : ∀ (n : Nat) (b b' : Bool) (x : List Nat), x.length ≤ n → (b = true → b' = true) → Good x → Alt b' (runsOf (rowC b' (transL b x))) (runsL (prep x))
  | _, b, b', [], _, _, _ => by rw [tr_nil, prep_nil, runsL_nil]; exact .ofF (.one [])
  | 0, _, _, _ :: _, h, _, _ => absurd h (by simp)
  | n + 1, b, b', c :: r, h, hbb, hG => by
    have hr : r.length ≤ n := by simpa using h
    by_cases h1 : c = 42
    · subst h1
      have g : AltT (runsOf (rowC true (transL true r))) (runsL (prep r)) := row_alt n true true r hr id hG.tail
      rw [tr_star, prep_cons, fold_Z (by decide), List.singleton_append, runsL_cons _ (by decide)]
      cases b' with
      | true =>
        cases b with
        | true => exact g.star
        | false => exact g.star
      | false =>
        cases b with
        | true => exact absurd (hbb rfl) (by simp)
        | false => exact AltF.more [] g
    · by_cases h3 : c = 91
      · subst h3
        rw [prep_cons, fold_Z (by decide), List.singleton_append]
        have hsp := shut_prep hG
        cases hs : shutAt r with
        | none =>
          rw [hs] at hsp
          rw [tr_open b hs, runsL_91o hsp]
          have e : ptText [92, 91] = [92, 91] := by decide +kernel
          have := rowC_text b' [92, 91] (transL false r) (runsL (prep r)) (fun q => by rw [e] at q; cases q) (row_alt n false false r hr id hG.tail)
          rw [e] at this; exact this
        | some j =>
          rw [hs] at hsp
          have hj := shutAt_facts hs
          have hjl := shutAt_lt hs
          obtain ⟨hne, _⟩ := stuff_ne hs
          obtain ⟨c0, r0, hy⟩ : ∃ c0 r0, r.take j = c0 :: r0 := by
            cases e : r.take j with
            | nil => exact absurd e hne
            | cons a t => exact ⟨a, t, rfl⟩
          have hb0 : isB1 c0 = false := by
            cases r with
            | nil => simp at hy
            | cons a t =>
              cases j with
              | zero => simp at hy
              | succ j => rw [List.take_succ_cons] at hy; cases hy; exact hG.no91
          have hd : r.drop j = 93 :: r.drop (j + 1) := by
            rw [List.drop_eq_getElem_cons hjl]
            have := hj.2.1
            rw [List.getElem?_eq_getElem hjl] at this
            rw [Option.some.inj this]
          have hp : prep r = prep (r.take j) ++ (93 :: prep (r.drop (j + 1))) := by
            conv => lhs; rw [← List.take_append_drop j r]
            rw [prep_app, hd, prep_cons, fold_Z (by decide)]; rfl
          have hs2 : shutAt (prep r) = some (prep (r.take j)).length := hsp
          rw [tr_shut b hs, runsL_91s hs2]
          have e1 : (prep r).take (prep (r.take j)).length = prep (r.take j) := by rw [hp]; simp
          have e2 : (prep r).drop ((prep (r.take j)).length + 1) = prep (r.drop (j + 1)) := by
            rw [hp, List.drop_append, List.drop_of_length_le (by omega)]; simp
          rw [e1, e2, hy, ← ptText_brk r0 hb0]
          refine rowC_text b' (brk (c0 :: r0)) (transL false (r.drop (j + 1))) _ (fun q => ?_) (row_alt n false false _ (by rw [List.length_drop]; omega) id (hG.tail.drop _))
          rw [ptText_brk r0 hb0] at q
          exact absurd q (brk_ne _)
      · by_cases h2 : c = 63
        · subst h2
          rw [tr_any, prep_cons, fold_Z (by decide), List.singleton_append, runsL_cons _ (by decide)]
          have e : ptText [46] = [46] := by decide +kernel
          have := rowC_text b' [46] (transL false r) (runsL (prep r)) (fun q => by rw [e] at q; cases q) (row_alt n false false r hr id hG.tail)
          rw [e] at this; exact this
        · rw [tr_else b r h1 h2 h3, prep_cons, sign_runs _ h1 h2 h3]
          exact rowC_text b' (esc c) (transL false r) (runsL (prep r)) (fun _ => row_alt n false b' r hr (fun q => nomatch q) hG.tail) (row_alt n false false r hr id hG.tail)
/-- the row of the odd text, joined, is the law's text of the folded text -/
theorem row_join {x : List Nat} (hG : Good x) : joinT (rowL (transL false x)) = textT (runsL (prep x)) := by
  rw [rowL_eq]
  have g : AltF (runsOf (rowC false (transL false x))) (runsL (prep x)) := row_alt _ false false x (Nat.le_refl _) id hG
  unfold joinT textT
  rw [joinL_text (rowC_ok false _).1, g.text]
end
section

noncomputable def goodB : List Nat → Bool
  | c :: d :: r => (!isB1 d || (!isB1 c && c != 91 && c != 33)) && goodB (d :: r)
  | _ => true
theorem good_of : ∀ {l : List Nat}, goodB l = true → Good l
  | [], _ => fun i c d h1 _ _ => by simp at h1
  | [_], _ => fun i c d h1 h2 _ => by simp at h2
  | c :: d :: r, h => by
    have h' : ((!isB1 d || (!isB1 c && c != 91 && c != 33)) && goodB (d :: r)) = true := h
    rw [Bool.and_eq_true] at h'
    have g := good_of h'.2
    intro i a b h1 h2 h3
    cases i with
    | zero =>
      have e1 : c = a := by simpa using h1
      have e2 : d = b := by simpa using h2
      subst e1 e2
      have := h'.1
      rw [h3] at this
      simpa [and_assoc] using this
    | succ i => exact g i a b (by simpa using h1) (by simpa using h2) h3
structure PcF (o p : List Nat) : Prop where
  fold : prep o = p
  good : Good o
  first : ∃ c r, o = c :: r ∧ isB1 c = false
  d1 : 45 ∉ o
  d2 : 45 ∉ p
  val : ∀ c ∈ o, c < 1114112
  l1 : o.length ≤ 4
  l2 : p.length ≤ 4
noncomputable def pcB (o p : List Nat) : Bool := prep o == p && goodB o && (match o with | c :: _ => !isB1 c | [] => false) && !o.contains 45 && !p.contains 45 && o.all (fun c => decide (c < 1114112)) && decide (o.length ≤ 4) && decide (p.length ≤ 4)
theorem pcF_of {o p : List Nat} (h : pcB o p = true) : PcF o p := by
  unfold pcB at h
  simp only [Bool.and_eq_true, decide_eq_true_eq, Bool.not_eq_true'] at h
  obtain ⟨⟨⟨⟨⟨⟨⟨h1, h2⟩, h3⟩, h4⟩, h5⟩, h6⟩, h7⟩, h8⟩ := h
  refine ⟨eq_of_beq h1, good_of h2, ?_, by simpa using h4, by simpa using h5, fun c hc => of_decide_eq_true (List.all_eq_true.mp h6 c hc), h7, h8⟩
  cases o with
  | nil => cases h3
  | cons c r => exact ⟨c, r, rfl, by simpa using h3⟩
theorem fin_all {n : Nat} {f : Nat → Bool} (h : (List.range n).all f = true) (q : Nat) (hn : 0 < n) : f (q % n) = true :=
  List.all_eq_true.mp h _ (List.mem_range.mpr (Nat.mod_lt _ hn))
theorem fold_small {c : Nat} (h : fold1 c = [c]) : prep [c] = [c] := by rw [prep_cons, h]; rfl
theorem pc_13 (c : Nat) (h45 : c ≠ 45) (hc : c < 1114112) : PcF (if isB1 c then [97, c] else [c]) (if isB1 c then [97] else (b3 c).cps.toList) := by
  have f97 : fold1 97 = [97] := by decide +kernel
  have b97 : isB1 97 = false := by decide +kernel
  cases hb : isB1 c with
  | true =>
    simp only [if_true]
    have hfc : fold1 c = [] := by unfold fold1; rw [hb]; rfl
    refine ⟨by rw [prep_cons, prep_cons, f97, hfc]; rfl, ?_, ⟨97, [c], rfl, b97⟩, ?_, by decide, ?_, by simp, by simp⟩
    · refine good_of ?_
      unfold goodB goodB
      rw [b97]; simp
    · simpa using fun e => h45 e.symm
    · intro d hd
      rcases List.mem_cons.mp hd with rfl | hd
      · decide
      · rw [List.mem_singleton.mp hd]; exact hc
  | false =>
    simp only [Bool.false_eq_true, if_false]
    have hfc : fold1 c = (b3 c).cps.toList := by unfold fold1; rw [hb]; rfl
    refine ⟨by rw [prep_cons, hfc, prep_nil, List.append_nil], fun i a b h1 h2 _ => ?_, ⟨c, [], rfl, hb⟩, by simpa using fun e => h45 e.symm, ?_, ?_, by simp, ?_⟩
    · simp at h2
    · rw [← hfc]; exact fold_no (by decide) (by decide) (by decide) h45
    · intro d hd; rw [List.mem_singleton.mp hd]; exact hc
    · have := b3_short c
      simpa [PySem.Str.length] using this
theorem c13_facts (q : Nat) : c13 q ≠ 45 ∧ c13 q < 1114112 := by
  unfold c13 c13a
  have := Nat.mod_lt q (show 0 < 1112064 by decide)
  split <;> split <;> omega
theorem pcF0 (q : Nat) : PcF (pcOf 0 q).1 (pcOf 0 q).2 := by
  exact pcF_of (o := [42]) (p := [42]) (by decide +kernel)
theorem pcF1 (q : Nat) : PcF (pcOf 1 q).1 (pcOf 1 q).2 := by
  exact pcF_of (o := [63]) (p := [63]) (by decide +kernel)
theorem pcF2 (q : Nat) : PcF (pcOf 2 q).1 (pcOf 2 q).2 := by
  exact pcF_of (o := [91]) (p := [91]) (by decide +kernel)
theorem pcF3 (q : Nat) : PcF (pcOf 3 q).1 (pcOf 3 q).2 := by
  exact pcF_of (o := [93]) (p := [93]) (by decide +kernel)
theorem pcF4 (q : Nat) : PcF (pcOf 4 q).1 (pcOf 4 q).2 := by
  exact pcF_of (o := [33]) (p := [33]) (by decide +kernel)
theorem pcF5 (q : Nat) : PcF (pcOf 5 q).1 (pcOf 5 q).2 := by
  exact pcF_of (o := [91, 33]) (p := [91, 33]) (by decide +kernel)
theorem pcF6 (q : Nat) : PcF (pcOf 6 q).1 (pcOf 6 q).2 := by
  exact pcF_of (fin_all (n := 11) (f := fun j => pcB [[94, 38, 126, 124, 46, 35, 32, 36, 43, 40, 92].getD j 0] [[94, 38, 126, 124, 46, 35, 32, 36, 43, 40, 92].getD j 0]) (by decide +kernel) q (by decide))
theorem pcF7 (q : Nat) : PcF (pcOf 7 q).1 (pcOf 7 q).2 := by
  exact pcF_of (fin_all (n := 26) (f := fun j => pcB [65 + j] [97 + j]) (by decide +kernel) q (by decide))
theorem pcF8 (q : Nat) : PcF (pcOf 8 q).1 (pcOf 8 q).2 := by
  have h : (List.range 10).all (fun i => (List.range 26).all fun j => pcB [119808 + 52 * ([0, 1, 2, 4, 7, 8, 9, 10, 11, 12].getD i 0) + j] [97 + j]) = true := by decide +kernel
  exact pcF_of (fin_all (n := 26) (fin_all (n := 10) h (q / 26) (by decide)) q (by decide))
theorem pcF9 (q : Nat) : PcF (pcOf 9 q).1 (pcOf 9 q).2 := by
  have h : (List.range 11).all (fun j => pcB [(sev9 j).1] (sev9 j).2) = true := by decide +kernel
  have e : sev9 q = sev9 (q % 11) := by unfold sev9; rw [Nat.mod_mod]
  show PcF [(sev9 q).1] (sev9 q).2
  rw [e]
  exact pcF_of (fin_all (n := 11) h q (by decide))
theorem pcF10 (q : Nat) : PcF (pcOf 10 q).1 (pcOf 10 q).2 := by
  have h : (List.range 27).all (fun i => (List.range 8).all fun j => pcB [[97, 42, 93, 63, 42, 94, 38, 46].getD j 0, b1N.getD i 0] [[97, 42, 93, 63, 42, 94, 38, 46].getD j 0]) = true := by decide +kernel
  exact pcF_of (fin_all (n := 8) (fin_all (n := 27) h (q / 8) (by decide)) q (by decide))
theorem pcF11 (q : Nat) : PcF (pcOf 11 q).1 (pcOf 11 q).2 := by
  show PcF (if q % 2 = 0 then [1040 + q / 2 % 32] else [66560 + q / 2 % 38]) (if q % 2 = 0 then [1072 + q / 2 % 32] else [66600 + q / 2 % 38])
  by_cases h : q % 2 = 0
  · rw [if_pos h, if_pos h]
    exact pcF_of (fin_all (n := 32) (f := fun j => pcB [1040 + j] [1072 + j]) (by decide +kernel) (q / 2) (by decide))
  · rw [if_neg h, if_neg h]
    exact pcF_of (fin_all (n := 38) (f := fun j => pcB [66560 + j] [66600 + j]) (by decide +kernel) (q / 2) (by decide))
theorem pcF12 (q : Nat) : PcF (pcOf 12 q).1 (pcOf 12 q).2 := by
  have h : (List.range 5).all (fun i => (List.range 17).all fun j => pcB [120488 + 58 * i + j] [945 + j]) = true := by decide +kernel
  exact pcF_of (fin_all (n := 17) (fin_all (n := 5) h (q / 17) (by decide)) q (by decide))
theorem pcF13 (q : Nat) : PcF (pcOf 13 q).1 (pcOf 13 q).2 := by
  exact pc_13 _ (c13_facts q).1 (c13_facts q).2
theorem pcF14 (q : Nat) : PcF (pcOf 14 q).1 (pcOf 14 q).2 := by
  exact pcF_of (fin_all (n := 26) (f := fun j => pcB [91, 65 + j] [91, 97 + j]) (by decide +kernel) q (by decide))
theorem pcF15 (q : Nat) : PcF (pcOf 15 q).1 (pcOf 15 q).2 := by
  exact pcF_of (o := [93]) (p := [93]) (by decide +kernel)
theorem pcF (n : Nat) : PcF (pc n).1 (pc n).2 := by
  unfold pc
  have hk : n % 16 < 16 := Nat.mod_lt _ (by decide)
  generalize n / 16 = q
  generalize n % 16 = k at *
  have h16 := lt16 k hk
  rcases h16 with rfl | rfl | rfl | rfl | rfl | rfl | rfl | rfl | rfl | rfl | rfl | rfl | rfl | rfl | rfl | rfl
  · exact pcF0 q
  · exact pcF1 q
  · exact pcF2 q
  · exact pcF3 q
  · exact pcF4 q
  · exact pcF5 q
  · exact pcF6 q
  · exact pcF7 q
  · exact pcF8 q
  · exact pcF9 q
  · exact pcF10 q
  · exact pcF11 q
  · exact pcF12 q
  · exact pcF13 q
  · exact pcF14 q
  · exact pcF15 q
theorem good_app {a b : List Nat} (h : Good a) (g : Good b) (hb : ∀ d r, b = d :: r → isB1 d = false) : Good (a ++ b) := by
  intro i c d h1 h2 h3
  by_cases hi : i + 1 < a.length
  · rw [List.getElem?_append_left (by omega)] at h1
    rw [List.getElem?_append_left hi] at h2
    exact h i c d h1 h2 h3
  · by_cases hi2 : i + 1 = a.length
    · rw [List.getElem?_append_right (by omega), hi2, Nat.sub_self] at h2
      cases b with
      | nil => cases h2
      | cons e r => cases h2; rw [hb _ r rfl] at h3; cases h3
    · rw [List.getElem?_append_right (by omega)] at h1 h2
      exact g (i - a.length) c d h1 (by rw [show i - a.length + 1 = i + 1 - a.length by omega]; exact h2) h3
/-- texts of the cells -/
noncomputable def oddL (ns : List Nat) : List Nat := ns.flatMap fun n => (pc n).1
noncomputable def plainL (ns : List Nat) : List Nat := ns.flatMap fun n => (pc n).2
structure CellF (o p : List Nat) (k : Nat) : Prop where
  fold : prep o = p
  good : Good o
  first : ∀ d r, o = d :: r → isB1 d = false
  d1 : 45 ∉ o
  d2 : 45 ∉ p
  val : ∀ c ∈ o, c < 1114112
  l1 : o.length ≤ 4 * k
  l2 : p.length ≤ 4 * k
theorem cellF : ∀ ns : List Nat, CellF (oddL ns) (plainL ns) ns.length
  | [] => ⟨rfl, fun i c d h _ _ => by simp [oddL] at h, fun d r h => by simp [oddL] at h, by simp [oddL], by simp [plainL], by simp [oddL], by simp [oddL], by simp [plainL]⟩
  | n :: r => by
    have g := cellF r
    have h := pcF n
    have e1 : oddL (n :: r) = (pc n).1 ++ oddL r := List.flatMap_cons
    have e2 : plainL (n :: r) = (pc n).2 ++ plainL r := List.flatMap_cons
    rw [e1, e2]
    refine ⟨by rw [prep_app, h.fold, g.fold], good_app h.good g.good g.first, ?_, ?_, ?_, ?_, ?_, ?_⟩
    · intro d t e
      obtain ⟨c, r2, hc, hb⟩ := h.first
      rw [hc] at e; cases e; exact hb
    · intro q; exact (List.mem_append.mp q).elim h.d1 g.d1
    · intro q; exact (List.mem_append.mp q).elim h.d2 g.d2
    · intro c q; exact (List.mem_append.mp q).elim (h.val c) (g.val c)
    · have := h.l1; have := g.l1; rw [List.length_append, List.length_cons]; omega
    · have := h.l2; have := g.l2; rw [List.length_append, List.length_cons]; omega
end
section

theorem mem_dbl {c : Nat} : ∀ {l : List Nat}, c ∈ dblB l → c ∈ l
  | [], h => by simp [dblB, PySem.StrLaws.dbl] at h
  | a :: r, h => by
    have ih := @mem_dbl c r
    unfold dblB at h ih
    rw [PySem.StrLaws.dbl] at h
    split at h
    · rename_i e
      rcases List.mem_cons.mp h with rfl | h
      · exact .head _
      · rcases List.mem_cons.mp h with rfl | h
        · exact .head _
        · exact .tail _ (ih h)
    · rcases List.mem_cons.mp h with rfl | h
      · exact .head _
      · exact .tail _ (ih h)
theorem mem_escB {c : Nat} {l : List Nat} (h : c ∈ escB l) : c ∈ l ∨ c = 92 := by
  unfold escB escAmp at h
  obtain ⟨a, ha, hc⟩ := List.mem_flatMap.mp h
  unfold escA at hc
  have hl := mem_dbl ha
  split at hc
  · simp only [List.mem_cons, List.not_mem_nil, or_false] at hc
    rcases hc with rfl | rfl
    · exact .inr rfl
    · exact .inl hl
  · rw [List.mem_singleton.mp hc]; exact .inl hl
theorem mem_brk {c : Nat} {l : List Nat} (h : c ∈ brk l) : c ∈ l ∨ c < 100 := by
  have e (q : c ∈ escB l) : c ∈ l ∨ c < 100 := (mem_escB q).imp id fun e => by omega
  unfold brk at h
  split at h
  · simp only [List.mem_append, List.mem_cons, List.not_mem_nil, or_false] at h
    rcases h with ((rfl | rfl) | h) | rfl
    · exact .inr (by decide)
    · exact .inr (by decide)
    · exact e (List.mem_of_mem_drop h)
    · exact .inr (by decide)
  · split at h
    · simp only [List.mem_append, List.mem_cons, List.not_mem_nil, or_false] at h
      rcases h with ((rfl | rfl) | h) | rfl
      · exact .inr (by decide)
      · exact .inr (by decide)
      · exact e h
      · exact .inr (by decide)
    · simp only [List.mem_append, List.mem_cons, List.not_mem_nil, or_false] at h
      rcases h with (rfl | h) | rfl
      · exact .inr (by decide)
      · exact e h
      · exact .inr (by decide)
theorem tr_chars : ∀ (n : Nat) (b : Bool) (x : List Nat), x.length ≤ n → (∀ c ∈ x, c < 1114112) → ∀ y, some y ∈ transL b x → ∀ c ∈ y, c < 1114112
  | _, b, [], _, _, y, h => by rw [tr_nil] at h; cases h
  | 0, _, _ :: _, h, _, _, _ => absurd h (by simp)
  | n + 1, b, c :: r, h, hx, y, hy => by
    have hr : r.length ≤ n := by simpa using h
    have hxr : ∀ c ∈ r, c < 1114112 := fun d hd => hx d (.tail _ hd)
    by_cases h1 : c = 42
    · subst h1
      rw [tr_star] at hy
      refine tr_chars n true r hr hxr y ?_
      cases b with
      | true => simpa using hy
      | false => simpa using hy
    · by_cases h2 : c = 63
      · subst h2
        rw [tr_any] at hy
        rcases List.mem_cons.mp hy with e | hy
        · cases e; intro d hd; rw [List.mem_singleton.mp hd]; decide
        · exact tr_chars n false r hr hxr y hy
      · by_cases h3 : c = 91
        · subst h3
          cases hs : shutAt r with
          | none =>
            rw [tr_open b hs] at hy
            rcases List.mem_cons.mp hy with e | hy
            · cases e; decide
            · exact tr_chars n false r hr hxr y hy
          | some j =>
            rw [tr_shut b hs] at hy
            rcases List.mem_cons.mp hy with e | hy
            · cases e
              intro d hd
              rcases mem_brk hd with q | q
              · exact hxr d (List.mem_of_mem_take q)
              · omega
            · exact tr_chars n false _ (by rw [List.length_drop]; omega) (fun d hd => hxr d (List.mem_of_mem_drop hd)) y hy
        · rw [tr_else b r h1 h2 h3] at hy
          rcases List.mem_cons.mp hy with e | hy
          · cases e
            have hc := hx c (.head _)
            unfold esc
            split
            · intro d hd
              simp only [List.mem_cons, List.not_mem_nil, or_false] at hd
              rcases hd with rfl | rfl
              · decide
              · exact hc
            · intro d hd; rw [List.mem_singleton.mp hd]; exact hc
          · exact tr_chars n false r hr hxr y hy
theorem tot_app (a b : List Pt) : tot (a ++ b) = tot a + tot b := by unfold tot; rw [List.map_append, List.sum_append]
theorem len_tot {ps : List Pt} {y : List Nat} (h : some y ∈ ps) : y.length ≤ tot ps := by
  induction ps with
  | nil => cases h
  | cons p r ih =>
    rw [tot_cons]
    rcases List.mem_cons.mp h with rfl | h
    · exact Nat.le_add_right _ _
    · have := ih h; omega
theorem prep_len4 (y : List Nat) : (prep y).length ≤ 4 * y.length := by
  induction y with
  | nil => simp [prep_nil]
  | cons c r ih =>
    rw [prep_cons, List.length_append, List.length_cons]
    have : (fold1 c).length ≤ 4 := by
      unfold fold1
      split
      · simp
      · have := b3_short c
        simpa [PySem.Str.length] using this
    omega
theorem ptText_len (y : List Nat) : (ptText y).length ≤ 4 * y.length + 4 := by
  unfold ptText
  cases e : rareL y with
  | none => have := prep_len4 y; simp only [Option.getD_none]; omega
  | some z =>
    obtain ⟨a, r, rfl, h⟩ := rareL_ne e
    simp only [Option.getD_some]; omega
theorem rowStep_len (r : List Pt) (p : Pt) : (rowStep r p).length ≤ r.length + 1 ∧ tot (rowStep r p) ≤ tot r + 4 * plen p + 4 := by
  cases p with
  | none =>
    unfold rowStep
    dsimp only
    split
    · omega
    · rw [tot_app]; simp [tot, plen]
  | some y =>
    have := ptText_len y
    have h9 : plen (some y) = y.length := rfl
    unfold rowStep
    dsimp only
    split
    · omega
    · rw [tot_app]; simp only [List.length_append, List.length_cons, List.length_nil]
      have : tot [some (ptText y)] = (ptText y).length := by simp [tot, plen]
      omega
theorem row_fold_len : ∀ (ps r : List Pt), (ps.foldl rowStep r).length ≤ r.length + ps.length ∧ tot (ps.foldl rowStep r) ≤ tot r + 4 * tot ps + 4 * ps.length
  | [], r => by simp
  | p :: ps, r => by
    have h := row_fold_len ps (rowStep r p)
    have g := rowStep_len r p
    rw [List.foldl_cons, tot_cons, List.length_cons]
    omega
structure RowF (x : List Nat) : Prop where
  len1 : (transL false x).length ≤ x.length
  txt : ∀ y, some y ∈ transL false x → y.length ≤ 1000 ∧ ∀ c ∈ y, c < 1114112
  len2 : (rowL (transL false x)).length ≤ x.length
  tot2 : tot (rowL (transL false x)) ≤ 20000
  adj : NoAdj (rowL (transL false x))
theorem rowF {x : List Nat} (hz : x.length ≤ 60) (hx : ∀ c ∈ x, c < 1114112) : RowF x := by
  have f := trF _ false x (Nat.le_refl _)
  have g := row_fold_len (transL false x) []
  have ft := f.tot
  have fl := f.len
  refine ⟨f.len, fun y hy => ⟨?_, tr_chars _ false x (Nat.le_refl _) hx y hy⟩, ?_, ?_, ?_⟩
  · have := len_tot hy; omega
  · have := g.1; unfold rowL; simp only [List.length_nil] at this; omega
  · have := g.2; unfold rowL; have e : tot [] = 0 := rfl; omega
  · rw [rowL_eq]; exact (rowC_ok false (transL false x)).1.adj
end
section

section
open LCg LCt
variable {β : Type} {prog : Program} {w : World} {A : Around} {h₀ : Heap} {L : Addr} {m : Str → Option Value} {env : Env} {elt : PySem.Expr} {x : Str} {scope : Scope} {cl : List (Str × Addr)} {s : Shared} {S : List (Addr × Obj) → Prop} {P : Nat → Value → Prop} {Fin : List Value → List (Addr × Obj) → Prop} {news : List (Addr × Obj)}
/-- a comprehension whose turns make objects -/
theorem rest_G (items : List β) (IsI : β → Value → Prop) (Rel : List β → List Value → List (Addr × Obj) → Prop)
    (hS : ∀ pre ys nw, Rel pre ys nw → S nw)
    (hP : ∀ i v, P i v → ∃ b, items[i]? = some b ∧ IsI b v) (h0 : Rel [] [] news)
    (turn : ∀ pre b post v ys nw I oI C oC D m₂ h tk (E' : Value → Shared → Prop), items = pre ++ b :: post → IsI b v → Rel pre ys nw → NsObj oC m₂ → m₂ x = some v → Fr h₀ L h m → News h₀ L h ((I, oI) :: (C, oC) :: (D, lst ys) :: nw) → Off3 I C D nw → ((@Ne Nat I C) ∧ (@Ne Nat I D) ∧ (@Ne Nat C D)) →
      wpAny (model prog w) A (eval elt (compEnvC scope cl C env)) (CompEnd h₀ L m { s with heap := h, toks := tk } I oI C oC D (lst ys) (fun _ => True) (fun y nw' => Rel (pre ++ [b]) (ys ++ [y]) nw')) E' { s with heap := h, toks := tk })
    (fin : ∀ ys nw, Rel items ys nw → Fin ys nw) : CompRest prog w A h₀ L m env elt x scope cl s S P Fin items.length 0 [] news := by
  have key : ∀ (j i : Nat) (ys : List Value) (nw : List (Addr × Obj)), i + j = items.length → Rel (items.take i) ys nw → CompRest prog w A h₀ L m env elt x scope cl s S P Fin j i ys nw := by
    intro j
    induction j with
    | zero =>
      intro i ys nw hi hy
      have e : i = items.length := by omega
      subst e
      rw [List.take_length] at hy
      exact CompRest.zero (fin ys nw hy)
    | succ j ih =>
      intro i ys nw hi hy
      refine CompRest.succ ?_
      intro v I oI C oC D m₂ h tk E' hv hC hx F N off ne
      obtain ⟨b, hb, hI⟩ := hP i v hv
      have ht : items.take (i + 1) = items.take i ++ [b] := by rw [List.take_add_one, hb]; rfl
      have e : items = items.take i ++ b :: items.drop (i + 1) := by
        have q := List.take_append_drop (i + 1) items
        rw [ht, List.append_assoc] at q
        exact q.symm
      refine wpAny_mono (turn _ b _ v ys nw I oI C oC D m₂ h tk E' e hI hy hC hx F N off ne) (fun y s₂ hq => ?_) fun _ _ e => e
      obtain ⟨h', tk', nw', e1, F', N', o', _, r⟩ := hq
      exact ⟨h', tk', nw', e1, F', N', o', hS _ _ _ r, ih (i + 1) _ _ (by omega) (ht ▸ r)⟩
  exact key _ 0 [] news (by omega) h0
end
inductive PcsAre (nw : List (Addr × Obj)) : List Value → List Nat → Prop
  | nil : PcsAre nw [] []
  | cons {a : Addr} {n : Nat} {u1 u2 : Tok} {ys : List Value} {ns : List Nat} : (a, tup [.str ⟨(pc n).1.toArray⟩ u1, .str ⟨(pc n).2.toArray⟩ u2]) ∈ nw → PcsAre nw ys ns → PcsAre nw (.ref a :: ys) (n :: ns)
theorem PcsAre.mono {nw nw' : List (Addr × Obj)} {ys : List Value} {ns : List Nat} (h : PcsAre nw ys ns) (k : ∀ p ∈ nw, p ∈ nw') : PcsAre nw' ys ns := by
  induction h with
  | nil => exact .nil
  | cons hm _ ih => exact .cons (k _ hm) ih
theorem PcsAre.length {nw : List (Addr × Obj)} {ys : List Value} {ns : List Nat} (h : PcsAre nw ys ns) : ys.length = ns.length := by
  induction h with
  | nil => rfl
  | cons _ _ ih => rw [List.length_cons, List.length_cons, ih]
theorem PcsAre.snoc {nw : List (Addr × Obj)} {ys : List Value} {ns : List Nat} (h : PcsAre nw ys ns) {a : Addr} {n : Nat} {u1 u2 : Tok} (hm : (a, tup [.str ⟨(pc n).1.toArray⟩ u1, .str ⟨(pc n).2.toArray⟩ u2]) ∈ nw) : PcsAre nw (ys ++ [.ref a]) (ns ++ [n]) := by
  induction h with
  | nil => exact .cons hm .nil
  | cons hm' _ ih => exact .cons hm' ih
theorem PcsAre.get {nw : List (Addr × Obj)} {ys : List Value} {ns : List Nat} (h : PcsAre nw ys ns) : ∀ (i : Nat) (v : Value), ys.toArray[i]? = some v → ∃ n, ns[i]? = some n ∧ ∃ a u1 u2, v = .ref a ∧ (a, tup [.str ⟨(pc n).1.toArray⟩ u1, .str ⟨(pc n).2.toArray⟩ u2]) ∈ nw := by
  induction h with
  | nil => intro i v hv; simp at hv
  | cons hm _ ih =>
    intro i v hv
    cases i with
    | zero => exact ⟨_, rfl, _, _, _, by simpa using hv.symm, hm⟩
    | succ i => exact ih i v (by simpa using hv)
theorem ints_items {vs : List Value} {zs : List Int} (h : IntsAre vs zs) (i : Nat) (v : Value) (hv : vs.toArray[i]? = some v) : ∃ z, zs[i]? = some z ∧ ∃ u, v = .int z u := by
  induction h generalizing i with
  | nil => simp at hv
  | cons z u _ ih =>
    cases i with
    | zero => exact ⟨z, rfl, u, by simpa using hv.symm⟩
    | succ i => exact ih i (by simpa using hv)
noncomputable def cellN (z : Int) : Nat := (Int.fmod z 1000000000).toNat
theorem cellN_eq (z : Int) : Int.fmod z 1000000000 = ((cellN z : Nat) : Int) := by
  unfold cellN
  rw [Int.toNat_of_nonneg (Int.fmod_nonneg_of_pos z (by decide))]
theorem cellN_lt (z : Int) : cellN z < 1000000000 := by
  have h := Int.fmod_lt_of_pos z (show (0 : Int) < 1000000000 by decide)
  rw [cellN_eq] at h
  omega
theorem off1_mem {D : Addr} : ∀ {l : List (Addr × Obj)}, LCg.Off1 D l → ∀ p ∈ l, p.1 ≠ D
  | [], _, _, h => nomatch h
  | _ :: _, x, p, h => by
    rcases List.mem_cons.mp h with rfl | h
    · exact x.1
    · exact off1_mem x.2 p h
theorem mem_rot3 {α : Type} {p i c d x : α} {l : List α} (h : p ∈ i :: c :: d :: x :: l) : p ∈ x :: i :: c :: d :: l := by
  simp only [List.mem_cons] at h ⊢
  rcases h with h | h | h | h | h <;> simp [h]
theorem tup_item0 {prog : Program} {w : World} {A : Around} {E : Value → Shared → Prop} {s : Shared} {h₀ : Heap} {L : Addr} {news : List (Addr × Obj)} {value slice : PySem.Expr} {a : Addr} {v0 v1 : Value} {u : Tok} {Q : Value → Shared → Prop} (N : News h₀ L s.heap news) (hm : (a, tup [v0, v1]) ∈ news) (h : Q v0 s)
    (hs : subscripted slice false (.ref a) (.int 0 u) = operate [.ref a, .int 0 u] (getItem (.ref a) (.int 0 u)) := by with_unfolding_all rfl) :
    wpAny (model prog w) A (subscriptTail value slice (.ref a) (.int 0 u)) Q E s :=
  item_tupleT (j := 0) ⟨_, (N _ hm).1, rfl, _, rfl⟩ (by decide) (by decide) rfl rfl h hs
theorem tup_item1 {prog : Program} {w : World} {A : Around} {E : Value → Shared → Prop} {s : Shared} {h₀ : Heap} {L : Addr} {news : List (Addr × Obj)} {value slice : PySem.Expr} {a : Addr} {v0 v1 : Value} {u : Tok} {Q : Value → Shared → Prop} (N : News h₀ L s.heap news) (hm : (a, tup [v0, v1]) ∈ news) (h : Q v1 s)
    (hs : subscripted slice false (.ref a) (.int 1 u) = operate [.ref a, .int 1 u] (getItem (.ref a) (.int 1 u)) := by with_unfolding_all rfl) :
    wpAny (model prog w) A (subscriptTail value slice (.ref a) (.int 1 u)) Q E s :=
  item_tupleT (j := 1) ⟨_, (N _ hm).1, rfl, _, rfl⟩ (by decide) (by decide) rfl rfl h hs
theorem news_skip2 {h₀ h : Heap} {L : Addr} {a b : Addr × Obj} {l : List (Addr × Obj)} (N : News h₀ L h (a :: b :: l)) : News h₀ L h (a :: l) := fun p hp => N p ((List.mem_cons.mp hp).elim (fun e => e ▸ .head _) fun h => .tail _ (.tail _ h))
theorem odd_flat (ns : List Nat) : ((ns.map fun n => (pc n).1).flatten).length = (oddL ns).length := by unfold oddL; rw [List.flatMap_def]
theorem plain_flat (ns : List Nat) : ((ns.map fun n => (pc n).2).flatten).length = (plainL ns).length := by unfold plainL; rw [List.flatMap_def]
theorem odd_cat (ns : List Nat) : cat ((ns.map fun n => (pc n).1).map stz) = stz (oddL ns) := by unfold oddL; rw [cat_flat, List.flatMap_def]
theorem plain_cat (ns : List Nat) : cat ((ns.map fun n => (pc n).2).map stz) = stz (plainL ns) := by unfold plainL; rw [cat_flat, List.flatMap_def]
noncomputable def SrcMid (h₀ : Heap) (L : Addr) (s : Shared) (m : Str → Option Value) (v : Value) (s' : Shared) : Prop :=
  ∃ ax us k cs h' tk, v = .ref ax ∧ s' = { s with heap := h', toks := tk } ∧ Fr h₀ L h' m ∧ News h₀ L h' [(ax, W.listOf (us : List Value).toArray k), (57, tabObj #[])] ∧ IntsAre us cs ∧ cs.length ≤ 14 ∧ ax ≠ 57
set_option maxHeartbeats 4000000 in
theorem law_walk (w : World) {p : Program} {loose : List Str} {mean : ExcName → Option Value} {mg mb : Str → Option Value} {h₀ : Heap} {L : Addr} {s : Shared} {fa av : Addr} {cd : Value} {vs : List Value} {zs : List Int} {Q : Flow → Shared → Prop} {E : Value → Shared → Prop}
    (T : Top p loose mean mg mb h₀) (X : (K w.params).In h₀) (B : Below callerA h₀ [] h₀) (F : Fr h₀ L s.heap (fun x => List.lookup x [(Str.ofString "script", .ref av)])) (N : News h₀ L s.heap [(57, tabObj #[])])
    (hl : h₀.IsList av vs.toArray) (hI : IntsAre vs zs) (hz : zs.length ≤ 63) (hpos : 0 < s.toks)
    (hret : ∀ h' tk', (∀ b o, h₀.get? b = some o → h'.get? b = some o) → GrownAt 57 h' → Q (.ret (.bool true)) { s with heap := h', toks := tk' }) :
    wpAny (model PySem.Challenge.pw_rx0107_01 w) (callerA.deeper (envOf (Str.ofString "law") sc23 L fa cd)) (execs bd23 (envOf (Str.ofString "law") sc23 L fa cd)) Q E s := by
  dsimp only [bd23, sc23]
  (repeat' (first | (k_unfold; (try dsimp only)) | (k_end; wrow_close) | ((with_reducible show wpAny _ _ (exec (Stmt.Assign _ (PySem.Expr.ListComp _ _ _ _) _) _) _ _ _); ((fail_if_success (rename PassR => np9)); refine stopW ?_)) | walk1 | (dsimp only; first | ((with_reducible show wpAny _ _ (exec (Stmt.Assign _ (PySem.Expr.ListComp _ _ _ _) _) _) _ _ _); ((fail_if_success (rename PassR => np9)); refine stopW ?_)) | walk1) | (leave1; walk_say "STEP leave1"; try dsimp only) | fail "no step"))
  unfold StopW
  refine cut_toT (σ := Addr × List Value × Nat × List (Addr × Obj) × List Nat) (fun c => (c.1, listOf c.2.1.toArray c.2.2.1) :: (c.2.2.2.1 ++ [(57, tabObj #[])])) (fun c => [(Str.ofString "pieces", .ref c.1)]) [] (fun c => PcsAre c.2.2.2.1 c.2.1 c.2.2.2.2 ∧ c.2.2.2.2.length ≤ 14 ∧ (∀ p ∈ c.2.2.2.1, p.1 ≠ 57) ∧ c.1 ≠ 57) F ?if1 ?rest1
  case if1 =>
    refine q_abs ?_
    intro q9 hq9
    have hpass : PassR := .on
    (repeat' (first | (k_unfold; (try dsimp only)) | (k_end; wrow_close) | ((with_reducible show wpAny _ _ (exec (Stmt.Assign _ (PySem.Expr.ListComp _ _ _ _) _) _) _ _ _); (k_dflt (refine' LCg.Assign_ListComp_U (by k_asm) (by rfl) (by with_unfolding_all rfl) (by with_unfolding_all rfl) (by decide) (by rfl) (by decide) (by rfl) (by rfl) (by rfl) ?_); (refine stopW ?_))) | walk1 | (dsimp only; first | ((with_reducible show wpAny _ _ (exec (Stmt.Assign _ (PySem.Expr.ListComp _ _ _ _) _) _) _ _ _); (k_dflt (refine' LCg.Assign_ListComp_U (by k_asm) (by rfl) (by with_unfolding_all rfl) (by with_unfolding_all rfl) (by decide) (by rfl) (by decide) (by rfl) (by rfl) (by rfl) ?_); (refine stopW ?_))) | walk1) | (leave1; walk_say "STEP leave1"; try dsimp only) | fail "no step"))
    unfold StopW
    refine wpAny_mono (Q := SrcMid h₀ L s (fun x => List.lookup x [(Str.ofString "script", .ref av)])) ?it1 (fun v s' hq => ?it2) (fun _ _ e => e)
    case it1 =>
      (repeat' (first | (k_unfold; (try dsimp only)) | (k_end; wrow_close) | ((with_reducible show wpAny _ _ (truthy (Value.ref _)) _ _ _); ((refine stopW ?_))) | walk1 | (dsimp only; first | ((with_reducible show wpAny _ _ (truthy (Value.ref _)) _ _ _); ((refine stopW ?_))) | walk1) | (leave1; walk_say "STEP leave1"; try dsimp only) | fail "no step"))
      unfold StopW
      rename IntsAre _ (List.take 14 zs) => I14
      rename News _ _ _ _ => N5
      rename Fr _ _ _ _ => F5
      rename 57 < _ => l57
      have hlen := I14.length
      rename List Value => ws5
      rename Heap => h5
      rename Addr => D5
      generalize hcs : List.take 14 zs = cs at I14 hlen
      have hc14 : cs.length ≤ 14 := by rw [← hcs, List.length_take]; omega
      cases I14 with
      | nil =>
        refine truthy_vs false rfl N5 (.head _) (by simp) ?_
        k_steps
        rename News _ _ _ _ => N6
        rename Fr _ _ _ _ => F6
        rename D5 < _ ∧ _ => l6
        exact ⟨_, [_, _, _, _], _, [_, _, _, _], _, _, rfl, rfl, F6, news_skip2 N6, .cons _ _ (.cons _ _ (.cons _ _ (.cons _ _ .nil))), by show 4 ≤ 14; omega, Nat.ne_of_gt l6.2⟩
      | cons z u I14 =>
        refine truthy_vs true rfl N5 (.head _) (by rw [hlen]; omega) ?_
        k_steps
        rename News _ _ _ _ => N6
        rename Fr _ _ _ _ => F6
        exact ⟨_, _, _, _, _, _, rfl, rfl, F6, N6, .cons _ _ I14, hc14, Nat.ne_of_gt l57⟩
    case it2 =>
      obtain ⟨ax, us, k, cs, h1, tk1, rfl, rfl, F1, N1, hI1, hc1, hax⟩ := hq
      have e9 : us.toArray.size = cs.length := by rw [List.size_toArray, hI1.length]
      refine LCg.CompSrc.ledger rfl F1 N1 (.head _) (by rw [sizeLine_eq, e9]; omega) ?_
      intro g
      rw [e9]
      refine rest_G cs (fun z v => ∃ u, v = .int z u) (fun pre ys nw => ∃ ex, nw = ex ++ [(ax, W.listOf us.toArray k), (57, tabObj #[])] ∧ PcsAre ex ys (pre.map cellN) ∧ ∀ p ∈ ex, p.1 ≠ 57) ?r1 (ints_items hI1) ⟨[], rfl, .nil, fun _ h => nomatch h⟩ ?r2 ?r3
      case r1 =>
        rintro pre ys nw ⟨ex, rfl, _, _⟩
        exact .inr ⟨_, List.mem_append_right _ (.head _), rfl, _, rfl⟩
      case r2 =>
        rintro pre z post v ys nw I oI C oC D m₂ h tk E' he ⟨u, rfl⟩ ⟨ex, rfl, hpc, hex⟩ hC hm F2 N2 off ne
        (repeat' (first | (k_unfold; (try dsimp only)) | (k_end; wrow_close) | ((with_reducible show wpAny _ _ (call (Value.ref _) _) _ _ _); refine stopW ?_) | walk1 | (dsimp only; first | ((with_reducible show wpAny _ _ (call (Value.ref _) _) _ _ _); refine stopW ?_) | walk1) | (leave1; walk_say "STEP leave1"; try dsimp only) | fail "no step"))
        unfold StopW
        rw [show ((10 : Int) ^ Int.toNat 9) = 1000000000 from by decide, cellN_eq]
        refine' con_use (c_piece w _ _ (cellN_lt z)) ?k1 ?k2 ?k3 ?k4 ?k5 ?k6 trivial ?k7 ?k8 ?_
        ((case k1 => k_asm); (case k2 => k_asm); (case k3 => k_asm); (case k4 => k_asm); (case k5 => k_asm); (case k6 => exact rfl); (case k7 => ktr_room); (case k8 => ktr_units))
        rintro v tl h9 tk9 ⟨D2, u1, u2, rfl, rfl⟩ hlt9 F9 N9
        have hlt : ∀ q, q ∈ (I, oI) :: (C, oC) :: (D, LCg.lst ys) :: (ex ++ [(ax, W.listOf us.toArray k), (57, tabObj #[])]) → q.1 < D2 := fun q hq => hlt9 q hq _ (.head _)
        have h57 : 57 < D2 := hlt _ (.tail _ (.tail _ (.tail _ (List.mem_append_right _ (.tail _ (.head _))))))
        refine LCg.CompEnd.intro F9 N9 ((D2, _) :: (ex ++ [(ax, W.listOf us.toArray k), (57, tabObj #[])])) (fun p hp => mem_rot3 hp) ⟨⟨Nat.ne_of_gt (hlt _ (.head _)), Nat.ne_of_gt (hlt _ (.tail _ (.head _))), Nat.ne_of_gt (hlt _ (.tail _ (.tail _ (.head _))))⟩, off⟩ trivial ⟨(D2, _) :: ex, rfl, ?_, ?_⟩
        · rw [List.map_append]
          exact (hpc.mono fun _ h => .tail _ h).snoc (.head _)
        · intro p hp
          rcases List.mem_cons.mp hp with rfl | hp
          · exact Nat.ne_of_gt h57
          · exact hex p hp
      case r3 =>
        rintro ys nw ⟨ex, rfl, hpc, hex⟩ D h' tk' F2 N2 o1
        refine hq9 _ _ ?_
        exact wend (D, ys, ys.length, ex, cs.map cellN) F2 N2 (fun p hp => by
          rcases List.mem_cons.mp hp with rfl | hp
          · exact .head _
          · refine .tail _ ?_
            rcases List.mem_append.mp hp with hp | hp
            · exact List.mem_append_left _ hp
            · exact List.mem_append_right _ (.tail _ hp)) (fun p hp => by rw [List.mem_singleton.mp hp]; rfl) (fun z hz _ => if_neg (hz _ (.head _))) ⟨hpc, by rw [List.length_map]; exact hc1, hex, Ne.symm (off1_mem o1 _ (List.mem_append_right _ (.tail _ (.head _))))⟩
  case rest1 =>
    rintro ⟨D, ys, k, ex, ns⟩ u0 h1 tk1 htk1 ⟨hpc, hns, hex, hD57⟩ F1 N1
    dsimp only at hpc hns hex hD57 F1 N1
    have g := cellF ns
    have gl1 := g.l1
    have gl2 := g.l2
    have ey : ys.toArray.size = ns.length := by rw [List.size_toArray, hpc.length]
    obtain ⟨M1, F1⟩ := flat_fr F1 [(Str.ofString "pieces", .ref D)] (by kst_all)
    (repeat' (first | (k_unfold; (try dsimp only)) | (k_end; wrow_close) | ((with_reducible show wpAny _ _ (exec (Stmt.Assign _ (PySem.Expr.Call _ _ _ _) _) _) _ _ _); ((fail_if_success (rename PassR => np9)); refine stopW ?_)) | walk1 | (dsimp only; first | ((with_reducible show wpAny _ _ (exec (Stmt.Assign _ (PySem.Expr.Call _ _ _ _) _) _) _ _ _); ((fail_if_success (rename PassR => np9)); refine stopW ?_)) | walk1) | (leave1; walk_say "STEP leave1"; try dsimp only) | fail "no step"))
    unfold StopW
    refine cut_toT (σ := Tok) (fun _ => (D, W.listOf ys.toArray k) :: (ex ++ [(57, tabObj #[])])) (fun c => [(Str.ofString "odd", .str ⟨(oddL ns).toArray⟩ c), (Str.ofString "pieces", .ref D)]) [] (fun _ => True) F1 ?if2 ?rest2
    case if2 =>
      refine q_abs ?_
      intro q9 hq9
      have hpass : PassR := .on
      (repeat' (first | (k_unfold; (try dsimp only)) | (k_end; wrow_close) | ((with_reducible show wpAny _ _ (eval (PySem.Expr.ListComp _ _ _ _) _) _ _ _); (k_dflt (refine' LCg.ListComp_U (by k_asm) (by with_unfolding_all rfl) (by decide) (by rfl) (by decide) (by rfl) ?_))) | walk1 | (dsimp only; first | ((with_reducible show wpAny _ _ (eval (PySem.Expr.ListComp _ _ _ _) _) _ _ _); (k_dflt (refine' LCg.ListComp_U (by k_asm) (by with_unfolding_all rfl) (by decide) (by rfl) (by decide) (by rfl) ?_))) | walk1) | (leave1; walk_say "STEP leave1"; try dsimp only) | fail "no step"))
      refine LCg.CompSrc.ledger rfl F1 N1 (.head _) (by rw [sizeLine_eq, ey]; omega) ?_
      intro g0
      rw [ey]
      refine rest_U ns (fun n v => ∃ a u1 u2, v = .ref a ∧ (a, tup [.str ⟨(pc n).1.toArray⟩ u1, .str ⟨(pc n).2.toArray⟩ u2]) ∈ ex) (fun pre zs => StrsAre zs ((pre.map fun n => (pc n).1).map stz)) (.inr ⟨_, .head _, rfl, _, rfl⟩) hpc.get .nil ?turn2 ?fin2
      case turn2 =>
        rintro pre n post v zs2 I oI C oC D2 m₂ h tk E' he ⟨a, u1, u2, rfl, hm⟩ hR hC hmm F2 N2 off ne
        (repeat' (first | (k_unfold; (try dsimp only)) | (k_end; wrow_close) | ((with_reducible show wpAny _ _ (subscriptTail _ _ (Value.ref _) (Value.int 0 _)) _ _ _); k_dflt (refine' tup_item0 (by k_asm) (by walk_at "mine_mem") ?_); (try dsimp only)) | walk1 | (dsimp only; first | ((with_reducible show wpAny _ _ (subscriptTail _ _ (Value.ref _) (Value.int 0 _)) _ _ _); k_dflt (refine' tup_item0 (by k_asm) (by walk_at "mine_mem") ?_); (try dsimp only)) | walk1) | (leave1; walk_say "STEP leave1"; try dsimp only) | fail "no step"))
        exact ⟨_, _, _, rfl, by assumption, by assumption, off, rfl, by rw [List.map_append, List.map_append]; exact strs_snoc hR⟩
      case fin2 =>
        intro zs2 hR D2 h' tk' F2 N2 o1
        have hsw : (((ns.map fun n => (pc n).1).map stz).map (·.length)).sum + ((ns.map fun n => (pc n).1).map stz).length ≤ 1048576 := by
          rw [strs_sum, List.length_map, List.length_map, odd_flat]; omega
        (repeat' (first | (k_unfold; (try dsimp only)) | (k_end; wrow_close) | ((with_reducible show wpAny _ _ (call (Value.builtin "str.join") _) _ _ _); (k_dflt (refine' join0 (by (refine' news_list ?N ?m; (case N => k_asm); (case m => walk_at "mine_mem"))) (by (first | assumption | exact .cons _ _ (by assumption))) (by assumption) ?_); intro t9 k9; (try dsimp only))) | walk1 | (dsimp only; first | ((with_reducible show wpAny _ _ (call (Value.builtin "str.join") _) _ _ _); (k_dflt (refine' join0 (by (refine' news_list ?N ?m; (case N => k_asm); (case m => walk_at "mine_mem"))) (by (first | assumption | exact .cons _ _ (by assumption))) (by assumption) ?_); intro t9 k9; (try dsimp only))) | walk1) | (leave1; walk_say "STEP leave1"; try dsimp only) | fail "no step"))
        rename News h₀ L _ _ => N3
        rename Fr h₀ L _ _ => F3
        rw [odd_cat] at F3
        refine hq9 _ _ ?_
        exact wend _ F3 (news_drop1 N3) (fun _ h => h) (by kst_all) (by (intro z9 h29 h39; (with_reducible (repeat (first | exact rfl | refine off_st h39 ?_ | refine off_st0 ?_ | refine off_nil ?_ | refine off_ite (by first | exact h29 _ me0 | exact h29 _ me1 | exact h29 _ me2 | exact h29 _ me3 | exact ne_st h39 me0 | exact ne_st h39 me1 | exact ne_st h39 me2) ?_ | refine off_kst (by first | exact h29 _ me0 | exact h29 _ me1 | exact h29 _ me2 | exact h29 _ me3 | exact ne_st h39 me0 | exact ne_st h39 me1 | exact ne_st h39 me2) ?_))); try exact rfl)) trivial
    case rest2 =>
      intro tO u2 h2 tk2 htk2 _ F2 N2
      obtain ⟨M2, F2⟩ := flat_fr F2 [(Str.ofString "odd", .str ⟨(oddL ns).toArray⟩ tO), (Str.ofString "pieces", .ref D)] (by kst_all)
      (repeat' (first | (k_unfold; (try dsimp only)) | (k_end; wrow_close) | ((with_reducible show wpAny _ _ (exec (Stmt.Assign _ (PySem.Expr.Call _ _ _ _) _) _) _ _ _); ((fail_if_success (rename PassR => np9)); refine stopW ?_)) | walk1 | (dsimp only; first | ((with_reducible show wpAny _ _ (exec (Stmt.Assign _ (PySem.Expr.Call _ _ _ _) _) _) _ _ _); ((fail_if_success (rename PassR => np9)); refine stopW ?_)) | walk1) | (leave1; walk_say "STEP leave1"; try dsimp only) | fail "no step"))
      unfold StopW
      refine cut_toT (σ := Tok) (fun _ => [(57, tabObj #[])]) (fun c => [(Str.ofString "plain", .str ⟨(plainL ns).toArray⟩ c), (Str.ofString "odd", .str ⟨(oddL ns).toArray⟩ tO)]) [] (fun _ => True) F2 ?if3 ?rest3
      case if3 =>
        refine q_abs ?_
        intro q9 hq9
        have hpass : PassR := .on
        (repeat' (first | (k_unfold; (try dsimp only)) | (k_end; wrow_close) | ((with_reducible show wpAny _ _ (eval (PySem.Expr.ListComp _ _ _ _) _) _ _ _); (k_dflt (refine' LCg.ListComp_U (by k_asm) (by with_unfolding_all rfl) (by decide) (by rfl) (by decide) (by rfl) ?_))) | walk1 | (dsimp only; first | ((with_reducible show wpAny _ _ (eval (PySem.Expr.ListComp _ _ _ _) _) _ _ _); (k_dflt (refine' LCg.ListComp_U (by k_asm) (by with_unfolding_all rfl) (by decide) (by rfl) (by decide) (by rfl) ?_))) | walk1) | (leave1; walk_say "STEP leave1"; try dsimp only) | fail "no step"))
        refine LCg.CompSrc.ledger rfl F2 N2 (.head _) (by rw [sizeLine_eq, ey]; omega) ?_
        intro g0
        rw [ey]
        refine rest_U ns (fun n v => ∃ a u1 u2, v = .ref a ∧ (a, tup [.str ⟨(pc n).1.toArray⟩ u1, .str ⟨(pc n).2.toArray⟩ u2]) ∈ ex) (fun pre zs => StrsAre zs ((pre.map fun n => (pc n).2).map stz)) (.inr ⟨_, .head _, rfl, _, rfl⟩) hpc.get .nil ?turn3 ?fin3
        case turn3 =>
          rintro pre n post v zs2 I oI C oC D2 m₂ h tk E' he ⟨a, u1, u2, rfl, hm⟩ hR hC hmm F8 N8 off ne
          (repeat' (first | (k_unfold; (try dsimp only)) | (k_end; wrow_close) | ((with_reducible show wpAny _ _ (subscriptTail _ _ (Value.ref _) (Value.int 1 _)) _ _ _); k_dflt (refine' tup_item1 (by k_asm) (by walk_at "mine_mem") ?_); (try dsimp only)) | walk1 | (dsimp only; first | ((with_reducible show wpAny _ _ (subscriptTail _ _ (Value.ref _) (Value.int 1 _)) _ _ _); k_dflt (refine' tup_item1 (by k_asm) (by walk_at "mine_mem") ?_); (try dsimp only)) | walk1) | (leave1; walk_say "STEP leave1"; try dsimp only) | fail "no step"))
          exact ⟨_, _, _, rfl, by assumption, by assumption, off, rfl, by rw [List.map_append, List.map_append]; exact strs_snoc hR⟩
        case fin3 =>
          intro zs2 hR D2 h' tk' F8 N8 o1
          have hsw : (((ns.map fun n => (pc n).2).map stz).map (·.length)).sum + ((ns.map fun n => (pc n).2).map stz).length ≤ 1048576 := by
            rw [strs_sum, List.length_map, List.length_map, plain_flat]; omega
          (repeat' (first | (k_unfold; (try dsimp only)) | (k_end; wrow_close) | ((with_reducible show wpAny _ _ (call (Value.builtin "str.join") _) _ _ _); (k_dflt (refine' join0 (by (refine' news_list ?N ?m; (case N => k_asm); (case m => walk_at "mine_mem"))) (by (first | assumption | exact .cons _ _ (by assumption))) (by assumption) ?_); intro t9 k9; (try dsimp only))) | walk1 | (dsimp only; first | ((with_reducible show wpAny _ _ (call (Value.builtin "str.join") _) _ _ _); (k_dflt (refine' join0 (by (refine' news_list ?N ?m; (case N => k_asm); (case m => walk_at "mine_mem"))) (by (first | assumption | exact .cons _ _ (by assumption))) (by assumption) ?_); intro t9 k9; (try dsimp only))) | walk1) | (leave1; walk_say "STEP leave1"; try dsimp only) | fail "no step"))
          rename News h₀ L _ _ => N3
          rename Fr h₀ L _ _ => F3
          rw [plain_cat] at F3
          refine hq9 _ _ ?_
          exact wend _ F3 (news_drop1 N3) (fun p hp => .tail _ (List.mem_append_right _ hp)) (by kst_all) (by (intro z9 h29 h39; (with_reducible (repeat (first | exact rfl | refine off_st h39 ?_ | refine off_st0 ?_ | refine off_nil ?_ | refine off_ite (by first | exact h29 _ me0 | exact h29 _ me1 | exact h29 _ me2 | exact h29 _ me3 | exact ne_st h39 me0 | exact ne_st h39 me1 | exact ne_st h39 me2) ?_ | refine off_kst (by first | exact h29 _ me0 | exact h29 _ me1 | exact h29 _ me2 | exact h29 _ me3 | exact ne_st h39 me0 | exact ne_st h39 me1 | exact ne_st h39 me2) ?_))); try exact rfl)) trivial
      case rest3 =>
        intro tP u3 h3 tk3 htk3 _ F3 N3
        obtain ⟨M3, F3⟩ := flat_fr F3 [(Str.ofString "plain", .str ⟨(plainL ns).toArray⟩ tP), (Str.ofString "odd", .str ⟨(oddL ns).toArray⟩ tO)] (by kst_all)
        have hcnt : (plainL ns).count 91 ≤ 56 := by have := List.count_le_length (a := 91) (l := plainL ns); omega
        have rf : RowF (oddL ns) := rowF (by omega) g.val
        clear hpc F N F1 N1 F2 N2
        (repeat' (first | (k_unfold; (try dsimp only)) | (k_end; wrow_close) | ((with_reducible show wpAny _ _ (exec (Stmt.If _ _ _ _) _) _ _ _); ((fail_if_success (rename PassR => np9)); refine stopW ?_)) | walk1 | (dsimp only; first | ((with_reducible show wpAny _ _ (exec (Stmt.If _ _ _ _) _) _ _ _); ((fail_if_success (rename PassR => np9)); refine stopW ?_)) | walk1) | (leave1; walk_say "STEP leave1"; try dsimp only) | fail "no step"))
        unfold StopW
        refine cut_toT (σ := Unit) (fun _ => [(57, tabObj #[])]) (fun _ => [(Str.ofString "plain", .str ⟨(plainL ns).toArray⟩ tP), (Str.ofString "odd", .str ⟨(oddL ns).toArray⟩ tO)]) [] (fun _ => True) F3 ?if4 ?rest4
        case if4 =>
          refine q_abs ?_
          intro q9 hq9
          have hpass : PassR := .on
          (repeat' (first | (k_unfold; (try dsimp only)) | (k_end; wrow_close) | ((with_reducible show wpAny _ _ (call (Value.ref _) _) _ _ _); refine stopW ?_) | walk1 | (dsimp only; first | ((with_reducible show wpAny _ _ (call (Value.ref _) _) _ _ _); refine stopW ?_) | walk1) | (leave1; walk_say "STEP leave1"; try dsimp only) | fail "no step"))
          unfold StopW
          refine' con_useS (c_prepL w (oddL ns) tO g.val (by omega)) ?k1 ?k2 ?k3 ?k4 ?k5 ?k6 ?k7 ?k8 ?_
          ((case k1 => k_asm); (case k2 => k_asm); (case k3 => k_asm); (case k4 => k_asm); (case k5 => k_asm); (case k6 => exact rfl); (case k7 => ktr_room); (case k8 => ktr_units))
          intro u9 h9 tk9 F9 N9
          (repeat' (first | (k_unfold; (try dsimp only)) | (k_end; wrow_close) | ((with_reducible show wpAny _ _ (compareOp CmpOp.NotEq (Value.str _ _) (Value.str _ _)) _ _ _); (refine stopW ?_)) | walk1 | (dsimp only; first | ((with_reducible show wpAny _ _ (compareOp CmpOp.NotEq (Value.str _ _) (Value.str _ _)) _ _ _); (refine stopW ?_)) | walk1) | (leave1; walk_say "STEP leave1"; try dsimp only) | fail "no step"))
          unfold StopW
          refine ne_tx true (by rw [g.fold]; exact beq_self_eq_true _) ?_
          k_steps
          rename News h₀ L _ _ => N5
          rename Fr h₀ L _ _ => F5
          refine hq9 _ _ ?_
          exact wend () F5 N5 (fun _ h => h) (by kst_all) (by (intro z9 h29 h39; (with_reducible (repeat (first | exact rfl | refine off_st h39 ?_ | refine off_st0 ?_ | refine off_nil ?_ | refine off_ite (by first | exact h29 _ me0 | exact h29 _ me1 | exact h29 _ me2 | exact h29 _ me3 | exact ne_st h39 me0 | exact ne_st h39 me1 | exact ne_st h39 me2) ?_ | refine off_kst (by first | exact h29 _ me0 | exact h29 _ me1 | exact h29 _ me2 | exact h29 _ me3 | exact ne_st h39 me0 | exact ne_st h39 me1 | exact ne_st h39 me2) ?_))); try exact rfl)) trivial
        case rest4 =>
          intro _ u4 h4 tk4 htk4 _ F4 N4
          obtain ⟨M4, F4⟩ := flat_fr F4 [(Str.ofString "plain", .str ⟨(plainL ns).toArray⟩ tP), (Str.ofString "odd", .str ⟨(oddL ns).toArray⟩ tO)] (by kst_all)
          clear F3 N3
          have hp4 : 0 < tk4 := Nat.lt_of_lt_of_le (Nat.lt_of_lt_of_le (Nat.lt_of_lt_of_le (Nat.lt_of_lt_of_le hpos htk1) htk2) htk3) htk4
          (repeat' (first | (k_unfold; (try dsimp only)) | (k_end; wrow_close) | ((with_reducible show wpAny _ _ (exec (Stmt.Assign _ (PySem.Expr.Call _ _ _ _) _) _) _ _ _); ((fail_if_success (rename PassR => np9)); refine stopW ?_)) | walk1 | (dsimp only; first | ((with_reducible show wpAny _ _ (exec (Stmt.Assign _ (PySem.Expr.Call _ _ _ _) _) _) _ _ _); ((fail_if_success (rename PassR => np9)); refine stopW ?_)) | walk1) | (leave1; walk_say "STEP leave1"; try dsimp only) | fail "no step"))
          unfold StopW
          refine cut_toT (σ := Addr × List Value × Nat × List (Addr × Obj) × Array Value) (fun c => (c.1, W.listOf c.2.1.toArray c.2.2.1) :: (c.2.2.2.1 ++ [(57, tabObj c.2.2.2.2)])) (fun c => [(Str.ofString "row", .ref c.1), (Str.ofString "plain", .str ⟨(plainL ns).toArray⟩ tP)]) [] (fun c => PA .none c.2.1 (rowL (transL false (oddL ns))) ∧ TS lamPs qLam c.2.2.2.2 (c.2.2.2.1 ++ [(57, tabObj c.2.2.2.2)]) ∧ (∀ p ∈ c.2.2.2.1, p.1 ≠ 57) ∧ c.1 ≠ 57) F4 ?if5 ?rest5
          case if5 =>
            refine q_abs ?_
            intro q9 hq9
            have hpass : PassR := .on
            (repeat' (first | (k_unfold; (try dsimp only)) | (k_end; wrow_close) | ((with_reducible show wpAny _ _ (call (Value.ref _) _) _ _ _); refine stopW ?_) | walk1 | (dsimp only; first | ((with_reducible show wpAny _ _ (call (Value.ref _) _) _ _ _); refine stopW ?_) | walk1) | (leave1; walk_say "STEP leave1"; try dsimp only) | fail "no step"))
            unfold StopW
            refine c_trans w (oddL ns) tO .none (.inl rfl) _ (by omega) g.d1 p loose mean mg mb _ _ _ _ _ _ _ _ _ _ _ _ _ _ [(57, tabObj #[])] (fun o => [(57, o)]) #[] _ _ _ B F4 X N4 T rfl (.head fun _ h => nomatch h) TS.nil ?kpos ?kdep ?kuni ?_
            case kpos => exact Nat.lt_of_lt_of_le hp4 (Nat.le_add_right _ _)
            case kdep => ktr_room
            case kuni => ktr_units
            rintro v tl h9 tk9 ts9 ⟨D, xs, n, rfl, hm, hpa⟩ hlt9 hts9 F9 N9
            clear F4 N4
            (repeat' (first | (k_unfold; (try dsimp only)) | (k_end; wrow_close) | ((with_reducible show wpAny _ _ (call (Value.ref _) _) _ _ _); refine stopW ?_) | walk1 | (dsimp only; first | ((with_reducible show wpAny _ _ (call (Value.ref _) _) _ _ _); refine stopW ?_) | walk1) | (leave1; walk_say "STEP leave1"; try dsimp only) | fail "no step"))
            unfold StopW
            refine' con_use (c_row w D xs _ hpa (by rw [hpa.length]; have := rf.len1; omega) rf.txt n) ?k1 ?k2 ?k3 ?k4 ?k5 ?k6 ?k0 ?k7 ?k8 ?_
            ((case k1 => k_asm); (case k2 => k_asm); (case k3 => k_asm); (case k4 => k_asm); (case k5 => k_asm); (case k6 => exact rfl); (case k7 => ktr_room); (case k8 => ktr_units))
            case k0 => exact List.mem_append_left _ hm
            rintro v tl2 hA tkA ⟨R, us, k, rfl, hm2, hpa2⟩ hltA FA NA
            clear F9 N9
            k_steps
            rename News h₀ L _ _ => N5
            rename Fr h₀ L _ _ => F5
            have h57 : ∀ p ∈ tl2 ++ tl, p.1 ≠ 57 := fun p hp => by
              rcases List.mem_append.mp hp with hp | hp
              · exact Nat.ne_of_gt (hltA _ (List.mem_append_right _ (.head _)) p hp)
              · exact Nat.ne_of_gt (hlt9 _ (.head _) p hp)
            refine hq9 _ _ ?_
            refine wend (R, us, k, tl2 ++ tl, ts9) F5 N5 (fun p hp => ?_) (by kst_all) (by (intro z9 h29 h39; (with_reducible (repeat (first | exact rfl | refine off_st h39 ?_ | refine off_st0 ?_ | refine off_nil ?_ | refine off_ite (by first | exact h29 _ me0 | exact h29 _ me1 | exact h29 _ me2 | exact h29 _ me3 | exact ne_st h39 me0 | exact ne_st h39 me1 | exact ne_st h39 me2) ?_ | refine off_kst (by first | exact h29 _ me0 | exact h29 _ me1 | exact h29 _ me2 | exact h29 _ me3 | exact ne_st h39 me0 | exact ne_st h39 me1 | exact ne_st h39 me2) ?_))); try exact rfl)) ⟨hpa2, hts9.mono fun p hp => ?_, h57, h57 _ (List.mem_append_left _ hm2)⟩
            · rcases List.mem_cons.mp hp with rfl | hp
              · exact List.mem_append_left _ hm2
              · rw [List.append_assoc] at hp; exact hp
            · rw [List.append_assoc]; exact List.mem_append_right _ hp
          case rest5 =>
            rintro ⟨R, us, k, ex2, ts⟩ u5 h5 tk5 htk5 ⟨hpa, hts, hex2, hR57⟩ F5 N5
            dsimp only at hpa hts hex2 hR57 F5 N5
            obtain ⟨M5, F5⟩ := flat_fr F5 [(Str.ofString "row", .ref R), (Str.ofString "plain", .str ⟨(plainL ns).toArray⟩ tP)] (by kst_all)
            clear F4 N4
            (repeat' (first | (k_unfold; (try dsimp only)) | (k_end; wrow_close) | ((with_reducible show wpAny _ _ (exec (Stmt.Assign _ (PySem.Expr.Call _ _ _ _) _) _) _ _ _); ((fail_if_success (rename PassR => np9)); refine stopW ?_)) | walk1 | (dsimp only; first | ((with_reducible show wpAny _ _ (exec (Stmt.Assign _ (PySem.Expr.Call _ _ _ _) _) _) _ _ _); ((fail_if_success (rename PassR => np9)); refine stopW ?_)) | walk1) | (leave1; walk_say "STEP leave1"; try dsimp only) | fail "no step"))
            unfold StopW
            refine cut_toT (σ := Tok) (fun _ => (R, W.listOf us.toArray k) :: (ex2 ++ [(57, tabObj ts)])) (fun c => [(Str.ofString "told", .str ⟨(textT (runsL (plainL ns))).toArray⟩ c), (Str.ofString "row", .ref R), (Str.ofString "plain", .str ⟨(plainL ns).toArray⟩ tP)]) [] (fun _ => True) F5 ?if6 ?rest6
            case if6 =>
              refine q_abs ?_
              intro q9 hq9
              have hpass : PassR := .on
              (repeat' (first | (k_unfold; (try dsimp only)) | (k_end; wrow_close) | ((with_reducible show wpAny _ _ (call (Value.ref _) _) _ _ _); refine stopW ?_) | walk1 | (dsimp only; first | ((with_reducible show wpAny _ _ (call (Value.ref _) _) _ _ _); refine stopW ?_) | walk1) | (leave1; walk_say "STEP leave1"; try dsimp only) | fail "no step"))
              unfold StopW
              refine' con_use (c_text w (plainL ns) tP (by omega) g.d2) ?k1 ?k2 ?k3 ?k4 ?k5 ?k6 trivial ?k7 ?k8 ?_
              case k7 => show callerA.depth + 1 + (_ + 8) < 1000; show 1 + 300 + 1 + (_ + 8) < 1000; omega
              case k8 => show 4 + _ + (_ * 100 + 200) < 9900; omega
              ((case k1 => k_asm); (case k2 => k_asm); (case k3 => k_asm); (case k4 => k_asm); (case k5 => k_asm); (case k6 => exact rfl))
              rintro v tl h9 tk9 ⟨rfl, u9, rfl⟩ hlt9 F9 N9
              clear F5 N5
              k_steps
              rename News h₀ L _ _ => N6
              rename Fr h₀ L _ _ => F6
              refine hq9 _ _ ?_
              exact wend _ F6 N6 (fun _ h => h) (by kst_all) (by (intro z9 h29 h39; (with_reducible (repeat (first | exact rfl | refine off_st h39 ?_ | refine off_st0 ?_ | refine off_nil ?_ | refine off_ite (by first | exact h29 _ me0 | exact h29 _ me1 | exact h29 _ me2 | exact h29 _ me3 | exact ne_st h39 me0 | exact ne_st h39 me1 | exact ne_st h39 me2) ?_ | refine off_kst (by first | exact h29 _ me0 | exact h29 _ me1 | exact h29 _ me2 | exact h29 _ me3 | exact ne_st h39 me0 | exact ne_st h39 me1 | exact ne_st h39 me2) ?_))); try exact rfl)) trivial
            case rest6 =>
              intro tT u6 h6 tk6 htk6 _ F6 N6
              obtain ⟨M6, F6⟩ := flat_fr F6 [(Str.ofString "told", .str ⟨(textT (runsL (plainL ns))).toArray⟩ tT), (Str.ofString "row", .ref R), (Str.ofString "plain", .str ⟨(plainL ns).toArray⟩ tP)] (by kst_all)
              clear F5 N5
              (repeat' (first | (k_unfold; (try dsimp only)) | (k_end; wrow_close) | ((with_reducible show wpAny _ _ (exec (Stmt.Return _ _) _) _ _ _); ((fail_if_success (rename PassR => np9)); refine stopW ?_)) | walk1 | (dsimp only; first | ((with_reducible show wpAny _ _ (exec (Stmt.Return _ _) _) _ _ _); ((fail_if_success (rename PassR => np9)); refine stopW ?_)) | walk1) | (leave1; walk_say "STEP leave1"; try dsimp only) | fail "no step"))
              unfold StopW
              have hpass : PassR := .on
              (repeat' (first | (k_unfold; (try dsimp only)) | (k_end; wrow_close) | ((with_reducible show wpAny _ _ (call (Value.ref _) _) _ _ _); refine stopW ?_) | walk1 | (dsimp only; first | ((with_reducible show wpAny _ _ (call (Value.ref _) _) _ _ _); refine stopW ?_) | walk1) | (leave1; walk_say "STEP leave1"; try dsimp only) | fail "no step"))
              unfold StopW
              have hp6 : 0 < tk6 := Nat.lt_of_lt_of_le (Nat.lt_of_lt_of_le hp4 htk5) htk6
              refine wpAny_up ?_
              refine' con_use (c_join w R .none (.inl rfl) us (rowL (transL false (oddL ns))) hpa ?i1 rf.tot2 rf.adj k) ?k1 ?k2 ?k3 ?k4 ?k5 ?k6 ?k0 ?k7 ?k8 ?_
              case i1 => rw [hpa.length]; have := rf.len2; omega
              ((case k1 => k_asm); (case k2 => k_asm); (case k3 => k_asm); (case k4 => k_asm); (case k5 => k_asm); (case k6 => exact rfl); (case k7 => ktr_room); (case k8 => ktr_units))
              case k0 => exact .head _
              rintro v tl h9 tk9 ⟨rfl, u9, rfl⟩ hlt9 F9 N9 hle9
              have hp9 : 0 < tk9 := Nat.lt_of_lt_of_le hp6 hle9
              have hrj := row_join g.good
              rw [g.fold] at hrj
              rw [List.nil_append] at N9
              (repeat' (first | (k_unfold; (try dsimp only)) | (k_end; wrow_close) | ((with_reducible show wpAny _ _ (compareOp CmpOp.Eq (Value.str _ _) (Value.str _ _)) _ _ _); (refine stopW ?_)) | walk1 | (dsimp only; first | ((with_reducible show wpAny _ _ (compareOp CmpOp.Eq (Value.str _ _) (Value.str _ _)) _ _ _); (refine stopW ?_)) | walk1) | (leave1; walk_say "STEP leave1"; try dsimp only) | fail "no step"))
              unfold StopW
              refine eq_tx true (by rw [hrj]; exact beq_self_eq_true _) ?_
              (repeat' (first | (k_unfold; (try dsimp only)) | (k_end; wrow_close) | ((with_reducible show wpAny _ _ (call (Value.ref _) _) _ _ _); refine stopW ?_) | walk1 | (dsimp only; first | ((with_reducible show wpAny _ _ (call (Value.ref _) _) _ _ _); refine stopW ?_) | walk1) | (leave1; walk_say "STEP leave1"; try dsimp only) | fail "no step"))
              unfold StopW
              have hU : UpdF 57 (tabObj ts) ((R, W.listOf us.toArray k) :: (ex2 ++ [(57, tabObj ts)])) (fun o => (R, W.listOf us.toArray k) :: (ex2 ++ [(57, o)])) := .tail hR57 (updf_app (.head (r := []) fun _ h => nomatch h) hex2)
              refine c_translate w (plainL ns) tP (by omega) g.d2 p loose mean mg mb _ _ _ _ _ _ _ _ _ _ _ _ _ _ _ _ ts _ _ _ B F9 X N9 T rfl hU (hts.mono fun _ h => .tail _ h) ?kpos2 ?kdep2 ?kuni2 ?_
              case kpos2 => exact hp9
              case kdep2 => ktr_room
              case kuni2 => ktr_units
              rintro v tl h8 tk8 ts8 ⟨u8, rfl⟩ hlt8 hts8 F8 N8
              (repeat' (first | (k_unfold; (try dsimp only)) | (k_end; wrow_close) | ((with_reducible show wpAny _ _ (compareOp CmpOp.Eq (Value.str _ _) (Value.str _ _)) _ _ _); (refine stopW ?_)) | walk1 | (dsimp only; first | ((with_reducible show wpAny _ _ (compareOp CmpOp.Eq (Value.str _ _) (Value.str _ _)) _ _ _); (refine stopW ?_)) | walk1) | (leave1; walk_say "STEP leave1"; try dsimp only) | fail "no step"))
              unfold StopW
              refine eq_tx true (by rw [plain_join]; exact beq_self_eq_true _) ?_
              k_steps
              exact hret _ _ F8.keep ⟨ts8, (N8 _ (List.mem_append_right _ (.tail _ (List.mem_append_right _ (.head _))))).1⟩
end
end
section
open PySem PySem.W PyProof.Rows
set_option maxRecDepth 1000000
set_option maxHeartbeats 400000
noncomputable abbrev BB (b : List Stmt) : Code := .body b env1
noncomputable abbrev SP := Sem Value × Sem Value
noncomputable def flX (run : List SP) (main : Option Addr) : Sem (Option Addr) := match main with
  | none => subDict run >>= fun d => pure (some d)
  | some d => holding [.ref d] (subDict run) >>= fun sub => ((holding [.ref d, .ref sub] (mergeMapping d (.ref sub) false)).onRaise fun x => do let _ ← holding [.ref d, x] (runValue (.builtin "proto.let_go" {}))) >>= fun _ => pure (some d)
noncomputable def wrS (x : SP) : Option (Sem Value) × Sem Value := (some x.1, x.2)
noncomputable abbrev MP := Option Addr × List SP
theorem disp_parts : ∃ (body : Option (Sem Value) × Sem Value → MP → Sem (ForInStep MP)) (fin : MP → Sem Value),
   (∀ items, dictDisplay items = (forIn items ((none, []) : MP) body) >>= fin) ∧
   (∀ x m run, run.length + 1 ≠ 17 → body (wrS x) (m, run) = pure (.yield (m, run ++ [x]))) ∧
   (∀ x m run, run.length + 1 = 17 → body (wrS x) (m, run) = flX (run ++ [x]) m >>= fun m' => pure (.yield (m', []))) ∧
   (∀ x m run, fin (m, x :: run) = flX (x :: run) m >>= fun m' => match m' with | some d => pure (.ref d) | none => newDict) := by
  refine ⟨?body, ?fin, fun items => ?a, ?b, ?c, ?d⟩
  case a => unfold dictDisplay; exact rfl
  case b =>
    intro x m run h
    have e : ((run ++ [x]).length == 17) = false := by simpa using h
    show (if ((run ++ [x]).length == 17) = true then _ else _) = _
    rw [e]
    rfl
  case c =>
    intro x m run h
    have e : ((run ++ [x]).length == 17) = true := by simpa using h
    show (if ((run ++ [x]).length == 17) = true then _ else _) = _
    rw [e]
    have e2 : (run ++ [x]).isEmpty = false := by simp
    cases m
    · show ((if (run ++ [x]).isEmpty = true then _ else _) >>= _) = _
      rw [e2]; rfl
    · show ((if (run ++ [x]).isEmpty = true then _ else _) >>= _) = _
      rw [e2]; rfl
  case d =>
    intro x m run
    cases m <;> rfl
theorem loop17 {body : Option (Sem Value) × Sem Value → MP → Sem (ForInStep MP)} (h1 : ∀ x m run, run.length + 1 ≠ 17 → body (wrS x) (m, run) = pure (.yield (m, run ++ [x])))
    (h2 : ∀ x m run, run.length + 1 = 17 → body (wrS x) (m, run) = flX (run ++ [x]) m >>= fun m' => pure (.yield (m', []))) (rest : List (Option (Sem Value) × Sem Value)) (m : Option Addr) :
    ∀ (l r : List SP), r.length + l.length = 17 → l ≠ [] → forIn (l.map wrS ++ rest) ((m, r) : MP) body = flX (r ++ l) m >>= fun m' => forIn rest ((m', []) : MP) body
  | [], _, _, h => absurd rfl h
  | x :: l, r, h, _ => by
    rw [List.map_cons, List.cons_append, List.forIn_cons]
    by_cases e : r.length + 1 = 17
    · have hl : l = [] := List.eq_nil_of_length_eq_zero (by simp at h; omega)
      subst hl
      rw [h2 _ _ _ e]
      exact Sem.bind_assoc _ _ _
    · rw [h1 _ _ _ e]
      have ih := loop17 h1 h2 rest m l (r ++ [x]) (by simp at h ⊢; omega) (by rintro rfl; simp at h; omega)
      rw [List.append_assoc] at ih
      exact ih
theorem loop4 {body : Option (Sem Value) × Sem Value → MP → Sem (ForInStep MP)} (h1 : ∀ x m run, run.length + 1 ≠ 17 → body (wrS x) (m, run) = pure (.yield (m, run ++ [x]))) (m : Option Addr) :
    ∀ (l r : List SP), r.length + l.length < 17 → forIn (l.map wrS) ((m, r) : MP) body = pure (m, r ++ l)
  | [], r, h => by rw [List.append_nil]; rfl
  | x :: l, r, h => by
    rw [List.map_cons, List.forIn_cons, h1 _ _ _ (by simp at h; omega)]
    have ih := loop4 h1 m l (r ++ [x]) (by simp at h ⊢; omega)
    rw [List.append_assoc] at ih
    exact ih

noncomputable def dpos : Pos := match stm 13 with
  | .Assign _ (.Dict _ _ q) _ => q
  | _ => default
noncomputable def prs : List SP := tab88.map fun kv => (mkInt kv.1, do let x ← mkText kv.2; standAt dpos; pure x)
noncomputable def runAt (i : Nat) : List SP := (prs.drop (17 * i)).take 17
noncomputable def sub88 (i : Nat) : Obj := { cls := .type "dict", data := .dict (ents 3 (589 + 51 * i) ((tab88.drop (17 * i)).take 17)).toArray 17 }
noncomputable def d88 (i : Nat) : Obj := { cls := .type "dict", data := .dict (ents 3 589 (tab88.take (17 * i))).toArray (17 * i) }
noncomputable def subs (T : BT) : Nat → BT
  | 0 => T
  | i + 1 => (subs T i).ins (88 + i + 1) (sub88 (i + 1))
/-- behind i + 1 chunks -/
noncomputable def tc (P : Params) (i : Nat) : BT := subs ((t14 P).ins 88 (d88 (i + 1))) i
noncomputable def sc (w : World) (os : OsState) (i : Nat) : SharedT := ⟨tc w.params i, 89 + i, {}, #[], {}, 589 + 51 * (i + 1), os⟩
end
section
open PySem PySem.W PyProof.Rows
set_option maxRecDepth 1000000
set_option maxHeartbeats 400000
theorem te_goS : @segGo = @segGo := rfl
noncomputable def Seg (w : World) (p : Program) (b : List Stmt) {α : Type} (n : Nat) (s : Shared) (x : Sem α) (s' : Shared) (a : α) : Prop :=
  ∀ (K : α → Sem Fin) (H : Value → Sem Fin) (gd : Bool → Bool) (lv : List Value → List Value),
    segGo treeTable p w 28 (some (.ref 6)) 1 n s ⟨x.wrap K H gd lv, BB b, dpos, [topFrame default]⟩ = some (s', ⟨K a, BB b, dpos, [topFrame default]⟩)
theorem segGo_add {tb : String → Option Builtin} {p : Program} {w : World} {n₀ : Nat} {ann : Option Value} {b : Nat} {r : Option (Shared × Thread)} : ∀ {n m : Nat} {s s' : Shared} {t t' : Thread}, segGo tb p w n₀ ann b n s t = some (s', t') →
    segGo tb p w n₀ ann b m s' t' = r → segGo tb p w n₀ ann b (n + m) s t = r
  | 0, m, s, s', t, t', h, k => by
    obtain ⟨rfl, rfl⟩ : s = s' ∧ t = t' := by simpa [segGo] using h
    rw [Nat.zero_add]; exact k
  | n + 1, m, s, s', t, t', h, k => by
    rw [show n + 1 + m = n + m + 1 by omega]
    unfold segGo at h ⊢
    cases he : endAt b t with
    | some f => rw [he] at h; cases h
    | none =>
      rw [he] at h
      cases hk : stepOk n₀ ann t with
      | false => rw [hk] at h; cases h
      | true =>
        rw [hk] at h
        cases hs : step (denote tb) p w s t with
        | halt o s₂ => rw [hs] at h; cases h
        | go s₂ t₂ => rw [hs] at h; exact segGo_add h k
section
variable {w : World} {p : Program} {b : List Stmt} {α β : Type} {n m : Nat} {s s₁ s₂ : Shared} {x : Sem α} {f : α → Sem β} {a : α} {c : β}
theorem Seg.pure (s : Shared) (a : α) : Seg w p b 0 s (Pure.pure a : Sem α) s a := fun _ _ _ _ => rfl
theorem Seg.bind (h1 : Seg w p b n s x s₁ a) (h2 : Seg w p b m s₁ (f a) s₂ c) : Seg w p b (n + m) s (x >>= f) s₂ c := fun K H gd lv => by
  rw [Sem.bind_eq_wrap', Sem.wrap_wrap]
  exact segGo_add (h1 _ _ _ _) (h2 K H _ _)
theorem Seg.keep (vs : List Value) (h : Seg w p b n s x s₁ a) : Seg w p b n s (holding vs x) s₁ a := fun K H gd lv => by
  unfold holding
  split
  · exact h K H gd lv
  · rw [Sem.keep_eq_wrap, Sem.wrap_wrap]
    exact h _ _ _ _
theorem Seg.onRaise {y : Value → Sem Unit} (h : Seg w p b n s x s₁ a) : Seg w p b n s (x.onRaise y) s₁ a := fun K H gd lv => by
  rw [Sem.onRaise_eq_wrap, Sem.wrap_wrap]
  exact h _ _ _ _
theorem Seg.cast {n' : Nat} (h : Seg w p b n s x s₁ a) (e : n = n') : Seg w p b n' s x s₁ a := e ▸ h
theorem Seg.state {s₂ : Shared} (h : Seg w p b n s x s₁ a) (e : s₁ = s₂) : Seg w p b n s x s₂ a := e ▸ h
variable {H : Heap} {g : Array GenState} {dr : Drawn} {t : Nat} {os : OsState} {d : Addr} {o : Obj}
theorem Seg.load {part : Option Value} (h : H.get? d = some o) : Seg w p b 1 ⟨H, g, dr, t, os⟩ (loadPart d part) ⟨H, g, dr, t, os⟩ o := fun K Hh gd lv => by
  show segGo treeTable p w 28 (some (.ref 6)) 1 1 ⟨H, g, dr, t, os⟩ ⟨.load d part fun x => K x, BB b, dpos, [topFrame default]⟩ = _
  unfold segGo
  have e1 : endAt 1 ⟨.load d part fun x => K x, BB b, dpos, [topFrame default]⟩ = none := rfl
  have e2 : stepOk 28 (some (.ref 6)) ⟨.load d part fun x => K x, BB b, dpos, [topFrame default]⟩ = true := rfl
  rw [e1, e2]
  simp only [step, h]
  rfl
theorem Seg.upd {part : Option Value} {f : Obj → Obj} (h : H.get? d = some o) (hd : Nat.ble 28 d = true) : Seg w p b 1 ⟨H, g, dr, t, os⟩ (updatePart d part f) ⟨H.update d f, g, dr, t, os⟩ () := fun K Hh gd lv => by
  show segGo treeTable p w 28 (some (.ref 6)) 1 1 ⟨H, g, dr, t, os⟩ ⟨.update d part f fun x => K x, BB b, dpos, [topFrame default]⟩ = _
  unfold segGo
  have e1 : endAt 1 ⟨.update d part f fun x => K x, BB b, dpos, [topFrame default]⟩ = none := rfl
  have e2 : stepOk 28 (some (.ref 6)) ⟨.update d part f fun x => K x, BB b, dpos, [topFrame default]⟩ = true := by
    show (Nat.ble 28 d || _ || _ || _) = true
    rw [hd]; rfl
  rw [e1, e2]
  simp only [step, h]
  rfl
theorem Seg.rule (tag : String) : Seg w p b 1 ⟨H, g, dr, t, os⟩ (PySem.rule tag) ⟨H, g, dr, t, os⟩ () := fun K Hh gd lv => rfl
theorem Seg.fresh : Seg w p b 1 ⟨H, g, dr, t, os⟩ PySem.fresh ⟨H, g, dr, t + 1, os⟩ t := fun K Hh gd lv => rfl
theorem Seg.stand : Seg w p b 1 ⟨H, g, dr, t, os⟩ (standAt dpos) ⟨H, g, dr, t, os⟩ () := fun K Hh gd lv => rfl
theorem Seg.alloc : Seg w p b 1 ⟨H, g, dr, t, os⟩ (PySem.alloc o) ⟨H.push o, g, dr, t, os⟩ H.objs.size := fun K Hh gd lv => rfl
theorem Seg.forUnit {k : Nat} {f : Nat → PUnit → Sem (ForInStep PUnit)} (S : Nat → Shared) : ∀ (n i : Nat), (∀ j, i ≤ j → j < i + n → Seg w p b k (S j) (f j ⟨⟩) (S (j + 1)) (.yield ⟨⟩)) → Seg w p b (k * n) (S i) (forIn (List.range' i n) (⟨⟩ : PUnit) f) (S (i + n)) ⟨⟩
  | 0, i, _ => Seg.pure _ _
  | n + 1, i, h => by
    rw [List.range'_succ, List.forIn_cons, Nat.mul_succ, Nat.add_comm (k * n) k]
    refine Seg.bind (h i (Nat.le_refl _) (by omega)) ?_
    have ih := Seg.forUnit S n (i + 1) fun j h1 h2 => h j (by omega) (by omega)
    rw [show i + 1 + n = i + (n + 1) by omega] at ih
    exact ih
theorem Seg.forList {γ : Type} {k : Nat} {f : γ → PUnit → Sem (ForInStep PUnit)} : ∀ (l pre : List γ) (S : List γ → Shared), (∀ pre' x post, pre ++ l = pre' ++ x :: post → Seg w p b k (S pre') (f x ⟨⟩) (S (pre' ++ [x])) (.yield ⟨⟩)) → Seg w p b (k * l.length) (S pre) (forIn l (⟨⟩ : PUnit) f) (S (pre ++ l)) ⟨⟩
  | [], pre, S, _ => by rw [List.append_nil]; exact Seg.pure _ _
  | x :: l, pre, S, h => by
    rw [List.forIn_cons, List.length_cons, Nat.mul_succ, Nat.add_comm (k * l.length) k]
    refine Seg.bind (h pre x l rfl) ?_
    have ih := Seg.forList l (pre ++ [x]) S fun pre' y post e => h pre' y post (by rw [← e, List.append_assoc]; rfl)
    rw [List.append_assoc] at ih
    exact ih
end
end
section
open PySem PySem.W PyProof.Rows
set_option maxRecDepth 1000000
set_option maxHeartbeats 400000
noncomputable abbrev dO (es : Array DictEntry) (n : Nat) : Obj := { cls := .type "dict", data := .dict es n }
section
variable {w : World} {p : Program} {b : List Stmt} {H : Heap} {g : Array GenState} {dr : Drawn} {t : Nat} {os : OsState} {d : Addr} {es : Array DictEntry} {n : Nat} {i h : Int} {u : Tok} {v : Value}
theorem placesNil (es : Array DictEntry) (h : Int) (hh : ∀ e ∈ es, e.hash ≠ h) : placesWithHash es.size (fun i => es[i]?.map (·.hash)) h = [] := by
  unfold placesWithHash
  rw [List.filter_eq_nil_iff]
  intro a ha
  have ha' : a < es.size := List.mem_range.mp ha
  simp only [Array.getElem?_eq_getElem ha', Option.map_some]
  simp only [beq_iff_eq, Option.some.injEq]
  exact hh _ (Array.getElem_mem ha')
theorem Seg.entries (part : Option Value) (hd : H.get? d = some (dO es n)) : Seg w p b 1 ⟨H, g, dr, t, os⟩ (dictEntries d part) ⟨H, g, dr, t, os⟩ es := by
  unfold dictEntries
  exact Seg.bind (n := 1) (m := 0) (Seg.load hd) (Seg.pure _ _)
theorem Seg.epoch (part : Option Value) (hd : H.get? d = some (dO es n)) : Seg w p b 1 ⟨H, g, dr, t, os⟩ (dictEpoch d part) ⟨H, g, dr, t, os⟩ n := by
  unfold dictEpoch
  exact Seg.bind (n := 1) (m := 0) (Seg.load hd) (Seg.pure _ _)
theorem Seg.find (hd : H.get? d = some (dO es n)) (hh : ∀ e ∈ es, e.hash ≠ h) : Seg w p b 1 ⟨H, g, dr, t, os⟩ (dictFind d (.int i u) h) ⟨H, g, dr, t, os⟩ none := by
  unfold dictFind
  refine Seg.keep _ (Seg.bind (n := 1) (m := 0) (Seg.entries _ hd) ?_)
  dsimp only
  rw [placesNil es h hh]
  exact Seg.pure _ _
theorem get_upd {f : Obj → Obj} {o : Obj} (ho : H.get? d = some o) (hf : (f o).isFreed = false) : (H.update d f).get? d = some (f o) := Heap.get?_update_self f ho hf
theorem Seg.push (hd : H.get? d = some (dO es n)) (h28 : Nat.ble 28 d = true) (hs : es.size < 1000) (part : Option Value) (e : DictEntry) :
    Seg w p b 3 ⟨H, g, dr, t, os⟩ (updateDictKeys d (·.push e) part) ⟨H.update d (Obj.mapDictKeys (·.push e)), g, dr, t, os⟩ () := by
  unfold updateDictKeys
  refine Seg.bind (n := 1) (m := 2) (Seg.load hd) ?_
  refine Seg.bind (n := 1) (m := 1) (Seg.upd hd h28) ?_
  unfold lookBehind
  have q : (H.update d (Obj.mapDictKeys (·.push e))).get? d = some (dO (es.push e) (n + 1)) := get_upd hd rfl
  refine Seg.bind (n := 1) (m := 0) (Seg.load q) ?_
  have z : (dO (es.push e) (n + 1)).data.pastItsLine = none := by
    show (if (es.push e).size > sizeLine + 1 then some "dict:memory" else none) = none
    rw [if_neg]
    rw [Array.size_push, sizeLine_eq]; omega
  rw [z]
  exact Seg.pure _ _
end
end
section
open PySem PySem.W PyProof.Rows
set_option maxRecDepth 1000000
set_option maxHeartbeats 400000
theorem hcF (w : World) (p : Program) (b : List Stmt) (H : Heap) (g : Array GenState) (dr : Drawn) (t : Nat) (os : OsState) (i : Int) (u : Tok) (R : Sem Value) (K : Option Value → Sem Fin) (Hh : Value → Sem Fin) (gd : Bool → Bool) (lv : List Value → List Value) : 
   segGo treeTable p (w.withFollow "special-get-raises" false) 28 (some (.ref 6)) 1 5 ⟨H, g, dr, t, os⟩ ⟨(callSpecialIfBoundUnlessNone? (.int i u) "__hash__" R).wrap K Hh gd lv, BB b, dpos, [topFrame default]⟩ = some (⟨H, g, dr, t + 1, os⟩, ⟨K (some (.int (rawHash i) t)), BB b, dpos, [topFrame default]⟩) := by
  kernel_rfl
theorem hcT (w : World) (p : Program) (b : List Stmt) (H : Heap) (g : Array GenState) (dr : Drawn) (t : Nat) (os : OsState) (i : Int) (u : Tok) (R : Sem Value) (K : Option Value → Sem Fin) (Hh : Value → Sem Fin) (gd : Bool → Bool) (lv : List Value → List Value) : 
   segGo treeTable p (w.withFollow "special-get-raises" true) 28 (some (.ref 6)) 1 5 ⟨H, g, dr, t, os⟩ ⟨(callSpecialIfBoundUnlessNone? (.int i u) "__hash__" R).wrap K Hh gd lv, BB b, dpos, [topFrame default]⟩ = some (⟨H, g, dr, t + 1, os⟩, ⟨K (some (.int (rawHash i) t)), BB b, dpos, [topFrame default]⟩) := by
  kernel_rfl
section
variable {w : World} {p : Program} {b : List Stmt} {H : Heap} {g : Array GenState} {dr : Drawn} {t : Nat} {os : OsState} {d a : Addr} {es : Array DictEntry} {n : Nat} {i h : Int} {u : Tok} {v : Value}
theorem Seg.hcall (R : Sem Value) : Seg w p b 5 ⟨H, g, dr, t, os⟩ (callSpecialIfBoundUnlessNone? (.int i u) "__hash__" R) ⟨H, g, dr, t + 1, os⟩ (some (.int (rawHash i) t)) := fun K Hh gd lv =>
  byRow2 (P := fun w => segGo treeTable p w 28 (some (.ref 6)) 1 5 ⟨H, g, dr, t, os⟩ ⟨(callSpecialIfBoundUnlessNone? (.int i u) "__hash__" R).wrap K Hh gd lv, BB b, dpos, [topFrame default]⟩ = some (⟨H, g, dr, t + 1, os⟩, ⟨K (some (.int (rawHash i) t)), BB b, dpos, [topFrame default]⟩)) "special-get-raises"
    (fun w => hcF w p b H g dr t os i u R K Hh gd lv) (fun w => hcT w p b H g dr t os i u R K Hh gd lv) w
theorem Seg.spec : Seg w p b 0 ⟨H, g, dr, t, os⟩ (specialOf (.int i u) "__hash__") ⟨H, g, dr, t, os⟩ (some (.builtin "int.__hash__")) := by
  unfold specialOf
  refine Seg.bind (n := 0) (m := 0) (a := Value.type "int") (Seg.pure _ _) ?_
  have e := slot_int_hash.lookup
  exact e ▸ Seg.pure _ _
theorem Seg.hash : Seg w p b 5 ⟨H, g, dr, t, os⟩ (pyHash (.int i u)) ⟨H, g, dr, t + 1, os⟩ (hashInt i) := by
  have hr := rawHash_range i
  show Seg w p b 5 _ (pyHashByItsType (.int i u)) _ _
  unfold pyHashByItsType
  refine Seg.bind (n := 0) (m := 5) (a := ()) (Seg.pure _ _) ?_
  refine Seg.bind (n := 0) (m := 5) Seg.spec ?_
  show Seg w p b 5 _ (if (some (Value.builtin "int.__hash__") == some Value.none) = true then _ else _) _ _
  rw [if_neg (by rw [beq_builtin_none]; exact Bool.false_ne_true)]
  refine Seg.bind (n := 0) (m := 5) Seg.spec ?_
  refine Seg.bind (n := 5) (m := 0) (Seg.hcall _) ?_
  show Seg w p b 0 _ (if (decide (-(2 : Int) ^ 63 ≤ rawHash i) && decide (rawHash i < 2 ^ 63)) = true then _ else _) _ _
  rw [if_pos (by rw [decide_eq_true hr.1, decide_eq_true hr.2]; rfl)]
  exact Seg.pure _ _
theorem Seg.dset (hd : H.get? d = some (dO es n)) (h28 : Nat.ble 28 d = true) (hs : es.size < 1000) (hh : ∀ e ∈ es, e.hash ≠ hashInt i) :
    Seg w p b 10 ⟨H, g, dr, t, os⟩ (dictSet d (.int i u) v) ⟨H.update d (Obj.mapDictKeys (·.push ⟨hashInt i, .int i u, v⟩)), g, dr, t + 1, os⟩ () := by
  unfold dictSet
  refine Seg.keep _ (Seg.bind (n := 5) (m := 5) Seg.hash ?_)
  unfold dictSetHashed
  refine Seg.keep _ (Seg.bind (n := 1) (m := 4) (Seg.find hd hh) ?_)
  exact Seg.bind (n := 1) (m := 3) (Seg.rule _) (Seg.push hd h28 hs _ _)
theorem Seg.dput (hd : H.get? d = some (dO es n)) (h28 : Nat.ble 28 d = true) (hs : es.size < 1000) (hh : ∀ e ∈ es, e.hash ≠ h) :
    Seg w p b 4 ⟨H, g, dr, t, os⟩ (dictPut d h (.int i u) v) ⟨H.update d (Obj.mapDictKeys (·.push ⟨h, .int i u, v⟩)), g, dr, t, os⟩ () := by
  unfold dictPut
  exact Seg.bind (n := 1) (m := 3) (Seg.find hd hh) (Seg.push hd h28 hs _ _)
theorem Seg.isdict (ha : H.get? a = some (dO es n)) : Seg w p b 1 ⟨H, g, dr, t, os⟩ (isInstance (.ref a) (.type "dict")) ⟨H, g, dr, t, os⟩ true := by
  unfold isInstance
  refine Seg.bind (n := 1) (m := 0) (a := Value.type "dict") (s₁ := ⟨H, g, dr, t, os⟩) ?_ ?_
  · exact Seg.bind (n := 1) (m := 0) (Seg.load ha) (Seg.pure _ _)
  · have e : isSubtype (.type "dict") (.type "dict") = (Pure.pure true : Sem Bool) := by rw [isSubtype_type]; kernel_rfl
    rw [e]; exact Seg.pure _ _
theorem Seg.itdict (ha : H.get? a = some (dO es n)) : Seg w p b 1 ⟨H, g, dr, t, os⟩ (specialOf (.ref a) "__iter__") ⟨H, g, dr, t, os⟩ (some (.builtin "dict.__iter__")) := by
  unfold specialOf
  refine Seg.bind (n := 1) (m := 0) (a := Value.type "dict") (s₁ := ⟨H, g, dr, t, os⟩) ?_ ?_
  · exact Seg.bind (n := 1) (m := 0) (Seg.load ha) (Seg.pure _ _)
  · have e : typeLookup (.type "dict") (Str.ofString "__iter__") = (Pure.pure (some (Value.builtin "dict.__iter__")) : Sem (Option Value)) := by rw [typeLookup_type, builtinLookup_eq_fast]; kernel_rfl
    exact e ▸ Seg.pure _ _
end
end
section
open PySem PySem.W PyProof.Rows
set_option maxRecDepth 1000000
set_option maxHeartbeats 400000
noncomputable def HD (H : Heap) (d : Addr) (es : Array DictEntry) (n : Nat) : Heap := H.update d fun _ => dO es n
theorem upd_upd (H : Heap) (d : Addr) (f g : Obj → Obj) : (H.update d f).update d g = H.update d (fun o => g (f o)) := by
  obtain ⟨objs, l⟩ := H
  show Heap.mk _ _ = Heap.mk _ _
  congr 1
  apply Array.ext_getElem?
  intro i
  rw [Array.getElem?_modify, Array.getElem?_modify, Array.getElem?_modify]
  by_cases e : d = i
  · simp only [e, if_true, Option.map_map]; rfl
  · simp only [e, if_false]
section
variable {w : World} {p : Program} {b : List Stmt} {H : Heap} {g : Array GenState} {dr : Drawn} {t : Nat} {os : OsState} {d a : Addr} {o : Obj} {es : Array DictEntry} {n : Nat} {i h : Int} {u : Tok} {v : Value}
theorem HD_get (ho : H.get? d = some o) : (HD H d es n).get? d = some (dO es n) := Heap.get?_update_self _ ho rfl
theorem HD_push (H : Heap) (d : Addr) (es : Array DictEntry) (n : Nat) (e : DictEntry) : (HD H d es n).update d (Obj.mapDictKeys (·.push e)) = HD H d (es.push e) (n + 1) := upd_upd _ _ _ _
theorem HD_get_ne (hne : d ≠ a) : (HD H d es n).get? a = H.get? a := Heap.get?_update_other _ _ hne
theorem upd_id (ho : H.get? d = some o) : H.update d (fun _ => o) = H := by
  obtain ⟨objs, l⟩ := H
  show Heap.mk _ _ = Heap.mk _ _
  congr 1
  apply Array.ext_getElem?
  intro i
  rw [Array.getElem?_modify]
  by_cases e : d = i
  · subst e
    have q : objs[d]? = some o := by
      unfold Heap.get? at ho
      dsimp only at ho
      split at ho
      · cases ho
      · exact ho
    simp only [if_true]
    rw [q]; rfl
  · simp only [e, if_false]
end
noncomputable def esA (t : Nat) (l : List (Int × Str)) : Array DictEntry := (ents 3 t l).toArray
theorem ents_snoc (st : Nat) : ∀ (l : List (Int × Str)) (t : Nat) (x : Int × Str), ents st t (l ++ [x]) = ents st t l ++ [⟨hashInt x.1, .int x.1 (t + st * l.length), .str x.2 (t + st * l.length + 1)⟩]
  | [], t, x => by simp [ents]
  | kv :: r, t, x => by
    show _ :: ents st (t + st) (r ++ [x]) = _ :: (ents st (t + st) r ++ _)
    rw [ents_snoc st r (t + st) x, List.length_cons, Nat.mul_succ]
    have e : t + st + st * r.length = t + (st * r.length + st) := by omega
    rw [e]
theorem ents_len (st : Nat) : ∀ (l : List (Int × Str)) (t : Nat), (ents st t l).length = l.length
  | [], _ => rfl
  | _ :: r, t => by show (ents st (t + st) r).length + 1 = _; rw [ents_len st r]; rfl
theorem ents_hash (st : Nat) : ∀ (l : List (Int × Str)) (t : Nat) (e : DictEntry), e ∈ ents st t l → e.hash ∈ l.map (fun kv => hashInt kv.1)
  | [], _, _, h => nomatch h
  | kv :: r, t, e, h => by
    rcases List.mem_cons.mp h with rfl | h
    · exact .head _
    · exact .tail _ (ents_hash st r _ _ h)
noncomputable def pr (kv : Int × Str) : SP := (mkInt kv.1, do let x ← mkText kv.2; standAt dpos; pure x)
theorem prs_eq : prs = tab88.map pr := rfl
section
variable {w : World} {p : Program} {b : List Stmt} {H : Heap} {g : Array GenState} {dr : Drawn} {t : Nat} {os : OsState} {d a : Addr} {o : Obj} {es : Array DictEntry} {n : Nat} {i h : Int} {u : Tok} {v : Value}
theorem Seg.forMap {γ δ : Type} {k : Nat} (φ : γ → δ) {f : δ → PUnit → Sem (ForInStep PUnit)} : ∀ (l pre : List γ) (S : List γ → Shared), (∀ pre' x post, pre ++ l = pre' ++ x :: post → Seg w p b k (S pre') (f (φ x) ⟨⟩) (S (pre' ++ [x])) (.yield ⟨⟩)) → Seg w p b (k * l.length) (S pre) (forIn (l.map φ) (⟨⟩ : PUnit) f) (S (pre ++ l)) ⟨⟩
  | [], pre, S, _ => by rw [List.append_nil]; exact Seg.pure _ _
  | x :: l, pre, S, h => by
    rw [List.map_cons, List.forIn_cons, List.length_cons, Nat.mul_succ, Nat.add_comm (k * l.length) k]
    refine Seg.bind (h pre x l rfl) ?_
    have ih := Seg.forMap φ l (pre ++ [x]) S fun pre' y post e => h pre' y post (by rw [← e, List.append_assoc]; rfl)
    rw [List.append_assoc] at ih
    exact ih
theorem Seg.sub17 (l : List (Int × Str)) (hl : l.length = 17) (h28 : Nat.ble 28 H.objs.size = true) (hnd : (l.map fun kv => hashInt kv.1).Nodup) :
    Seg w p b 223 ⟨H, g, dr, t, os⟩ (subDict (l.map pr)) ⟨HD (H.push (dO #[] 0)) H.objs.size (esA t l) 17, g, dr, t + 51, os⟩ H.objs.size := by
  unfold subDict
  refine Seg.bind (n := 1) (m := 222) Seg.alloc ?_
  refine Seg.bind (n := 222) (m := 0) (a := ()) (Seg.keep _ ?_) (Seg.pure _ _)
  rw [if_neg (by rw [List.length_map, hl]; decide)]
  refine Seg.bind (n := 1) (m := 221) (Seg.rule _) ?_
  have h0 : (H.push (dO #[] 0)).get? H.objs.size = some (dO #[] 0) := Heap.get?_push_size _ rfl
  have main := Seg.forMap (w := w) (p := p) (b := b) (k := 13) pr (f := fun x _ => do
        let kv ← x.1
        let vv ← holding [kv] x.2
        holding [kv, vv] (dictSet H.objs.size kv vv)
        Pure.pure (ForInStep.yield ⟨⟩)) l [] (fun pre => ⟨HD (H.push (dO #[] 0)) H.objs.size (esA t pre) pre.length, g, dr, t + 3 * pre.length, os⟩) (fun pre x post e => by
    have e0 : l = pre ++ x :: post := e
    have hpl : pre.length < 17 := by have := congrArg List.length e; simp at this; omega
    refine Seg.bind (n := 1) (m := 12) (a := Value.int x.1 (t + 3 * pre.length)) (Seg.bind (n := 1) (m := 0) Seg.fresh (Seg.pure _ _)) ?_
    refine Seg.bind (n := 2) (m := 10) (Seg.keep _ (a := Value.str x.2 (t + 3 * pre.length + 1)) (Seg.bind (n := 1) (m := 1) (Seg.bind (n := 1) (m := 0) Seg.fresh (Seg.pure _ _)) (Seg.bind (n := 1) (m := 0) Seg.stand (Seg.pure _ _)))) ?_
    refine Seg.bind (n := 10) (m := 0) (Seg.keep _ (Seg.dset (HD_get h0) h28 ?_ ?_)) ?_
    · show (ents 3 t pre).toArray.size < 1000
      rw [List.size_toArray, ents_len]; omega
    · intro e he q
      have h1 := ents_hash 3 pre t e (by simpa [esA] using he)
      rw [q] at h1
      rw [e0, List.map_append, List.map_cons] at hnd
      exact (List.nodup_append.mp hnd).2.2 _ h1 _ (.head _) rfl
    · refine Seg.state (Seg.pure _ _) ?_
      rw [HD_push]
      have q : (esA t pre).push ⟨hashInt x.1, .int x.1 (t + 3 * pre.length), .str x.2 (t + 3 * pre.length + 1)⟩ = esA t (pre ++ [x]) := by
        unfold esA; rw [ents_snoc, List.push_toArray]
      rw [q, List.length_append, List.length_singleton]
      show Shared.mk _ _ _ _ _ = Shared.mk _ _ _ _ _
      congr 1
      )
  rw [List.nil_append, hl] at main
  refine Seg.bind (n := 221) (m := 0) (s₁ := ⟨HD (H.push (dO #[] 0)) H.objs.size (esA t l) 17, g, dr, t + 51, os⟩) (a := ⟨⟩) ?_ (Seg.pure _ _)
  have hS : (⟨H.push (dO #[] 0), g, dr, t, os⟩ : Shared) = ⟨HD (H.push (dO #[] 0)) H.objs.size (esA t []) 0, g, dr, t + 3 * 0, os⟩ := by
    have := upd_id h0
    unfold HD esA
    rw [show (ents 3 t []).toArray = #[] from rfl, this]
    rfl
  rw [hS]
  exact main
end
end
section
open PySem PySem.W PyProof.Rows
set_option maxRecDepth 1000000
set_option maxHeartbeats 400000
noncomputable def valsOf : Nat → List (Int × Str) → List (Value × Value)
  | _, [] => []
  | t, kv :: r => (.int kv.1 t, .str kv.2 (t + 1)) :: valsOf (t + 2) r
theorem valsOf_ix : ∀ (l : List (Int × Str)) (t : Nat), valsOf t l = l.zipIdx.map fun x => (Value.int x.1.1 (t + 2 * x.2), Value.str x.1.2 (t + 2 * x.2 + 1)) := by
  have key : ∀ (l : List (Int × Str)) (t k : Nat), valsOf (t + 2 * k) l = (l.zipIdx k).map fun x => (Value.int x.1.1 (t + 2 * x.2), Value.str x.1.2 (t + 2 * x.2 + 1)) := by
    intro l
    induction l with
    | nil => intro t k; rfl
    | cons kv r ih =>
      intro t k
      rw [List.zipIdx_cons, List.map_cons, ← ih t (k + 1)]
      rfl
  intro l t
  exact key l t 0
section
variable {w : World} {p : Program} {b : List Stmt} {H : Heap} {g : Array GenState} {dr : Drawn} {t : Nat} {os : OsState} {d a : Addr} {o : Obj} {es es2 : Array DictEntry} {n n2 : Nat} {i h : Int} {u : Tok} {v : Value}
theorem Seg.pairs : ∀ (l : List (Int × Str)) (t : Nat), Seg w p b (3 * l.length) ⟨H, g, dr, t, os⟩ (evalPairs (l.map pr)) ⟨H, g, dr, t + 2 * l.length, os⟩ (valsOf t l)
  | [], t => Seg.pure _ _
  | kv :: r, t => by
    rw [List.length_cons, Nat.mul_succ, Nat.add_comm (3 * r.length) 3, Nat.mul_succ]
    show Seg w p b _ _ (evalPairs (pr kv :: r.map pr)) _ _
    unfold evalPairs
    refine Seg.cast (Seg.bind (n := 1) (m := 2 + (3 * r.length)) (a := Value.int kv.1 t) (Seg.bind (n := 1) (m := 0) Seg.fresh (Seg.pure _ _)) ?_) (by omega)
    refine Seg.bind (n := 2) (m := 3 * r.length) (Seg.keep _ (a := Value.str kv.2 (t + 1)) (Seg.bind (n := 1) (m := 1) (Seg.bind (n := 1) (m := 0) Seg.fresh (Seg.pure _ _)) (Seg.bind (n := 1) (m := 0) Seg.stand (Seg.pure _ _)))) ?_
    refine Seg.bind (n := 3 * r.length) (m := 0) (Seg.keep _ (Seg.pairs r (t + 2))) ?_
    refine Seg.state (Seg.pure _ _) ?_
    rw [show t + 2 + 2 * r.length = t + (2 * r.length + 2) by omega]
theorem Seg.sub4 (l : List (Int × Str)) (hl : l.length ≤ 15) (h28 : Nat.ble 28 H.objs.size = true) (hnd : (l.map fun kv => hashInt kv.1).Nodup) :
    Seg w p b (1 + 13 * l.length) ⟨H, g, dr, t, os⟩ (subDict (l.map pr)) ⟨HD (H.push (dO #[] 0)) H.objs.size (ents 2 t l).toArray l.length, g, dr, t + 3 * l.length, os⟩ H.objs.size := by
  unfold subDict
  refine Seg.bind (n := 1) (m := 13 * l.length) Seg.alloc ?_
  refine Seg.bind (n := 13 * l.length) (m := 0) (a := ()) (Seg.keep _ ?_) (Seg.pure _ _)
  rw [if_pos (by rw [List.length_map]; exact hl)]
  refine Seg.cast (Seg.bind (n := 3 * l.length) (m := 10 * l.length) (Seg.pairs l t) (Seg.keep _ ?_)) (by omega)
  have h0 : (H.push (dO #[] 0)).get? H.objs.size = some (dO #[] 0) := Heap.get?_push_size _ rfl
  rw [valsOf_ix]
  have main := Seg.forMap (w := w) (p := p) (b := b) (k := 10) (fun x : (Int × Str) × Nat => (Value.int x.1.1 (t + 2 * x.2), Value.str x.1.2 (t + 2 * x.2 + 1))) (f := fun x _ => do
        dictSet H.objs.size x.1 x.2
        Pure.pure (ForInStep.yield ⟨⟩)) l.zipIdx [] (fun pre => ⟨HD (H.push (dO #[] 0)) H.objs.size (ents 2 t (pre.map (·.1))).toArray pre.length, g, dr, t + 2 * l.length + pre.length, os⟩) (fun pre x post e => by
    have e0 : l.zipIdx = pre ++ x :: post := e
    have e1 : l = pre.map (·.1) ++ x.1 :: post.map (·.1) := by
      have := congrArg (List.map (·.1)) e0
      simpa using this
    have e2 : x.2 = pre.length := by
      have q : l.zipIdx[pre.length]? = some x := by rw [e0]; simp
      rw [List.getElem?_zipIdx] at q
      simp at q
      obtain ⟨_, _, _, q⟩ := q
      rw [← q]
    have hpl : pre.length < 15 := by have := congrArg List.length e0; simp at this; omega
    rw [e2]
    refine Seg.bind (n := 10) (m := 0) (Seg.dset (HD_get h0) h28 ?_ ?_) ?_
    · rw [List.size_toArray, ents_len, List.length_map]; omega
    · intro e he q
      have h1 := ents_hash 2 _ t e (by simpa using he)
      rw [q] at h1
      rw [e1, List.map_append, List.map_cons] at hnd
      exact (List.nodup_append.mp hnd).2.2 _ h1 _ (.head _) rfl
    · refine Seg.state (Seg.pure _ _) ?_
      rw [HD_push]
      have q : (ents 2 t (pre.map (·.1))).toArray.push ⟨hashInt x.1.1, .int x.1.1 (t + 2 * pre.length), .str x.1.2 (t + 2 * pre.length + 1)⟩ = (ents 2 t ((pre ++ [x]).map (·.1))).toArray := by
        rw [List.map_append, List.map_singleton, ents_snoc, List.push_toArray, List.length_map]
      rw [q, List.length_append, List.length_singleton]
      show Shared.mk _ _ _ _ _ = Shared.mk _ _ _ _ _
      congr 1)
  rw [List.nil_append, List.length_zipIdx] at main
  refine Seg.bind (n := 10 * l.length) (m := 0) (s₁ := ⟨HD (H.push (dO #[] 0)) H.objs.size (ents 2 t l).toArray l.length, g, dr, t + 3 * l.length, os⟩) (a := ⟨⟩) ?_ (Seg.pure _ _)
  have hS : (⟨H.push (dO #[] 0), g, dr, t + 2 * l.length, os⟩ : Shared) = ⟨HD (H.push (dO #[] 0)) H.objs.size (ents 2 t (([] : List ((Int × Str) × Nat)).map (·.1))).toArray 0, g, dr, t + 2 * l.length + 0, os⟩ := by
    have := upd_id h0
    unfold HD
    rw [show (ents 2 t (([] : List ((Int × Str) × Nat)).map (·.1))).toArray = #[] from rfl, this]
    rfl
  rw [hS]
  have hE : (⟨HD (H.push (dO #[] 0)) H.objs.size (ents 2 t (l.zipIdx.map (·.1))).toArray l.length, g, dr, t + 2 * l.length + l.length, os⟩ : Shared) = ⟨HD (H.push (dO #[] 0)) H.objs.size (ents 2 t l).toArray l.length, g, dr, t + 3 * l.length, os⟩ := by
    rw [show l.zipIdx.map (·.1) = l by simp, show t + 2 * l.length + l.length = t + 3 * l.length by omega]
  rw [← hE]
  exact main
theorem Seg.merge (l : List DictEntry) (hd : H.get? d = some (dO es n)) (h28 : Nat.ble 28 d = true) (ha : H.get? a = some (dO l.toArray n2)) (hne : d ≠ a) (hs : (a == sysModules) = false) (h0 : es.isEmpty = false) (hz : es.size + l.length < 1000)
    (hk : ∀ e ∈ l, ∃ i u, e.key = .int i u) (hnd : (es.toList.map (·.hash) ++ l.map (·.hash)).Nodup) :
    Seg w p b (5 + 6 * l.length) ⟨H, g, dr, t, os⟩ (mergeMapping d (.ref a) false) ⟨HD H d (es ++ l.toArray) (n + l.length), g, dr, t, os⟩ () := by
  unfold mergeMapping
  refine Seg.cast (Seg.bind (n := 1) (m := 4 + 6 * l.length) (Seg.isdict ha) ?_) (by omega)
  rw [if_pos rfl]
  refine Seg.cast (Seg.bind (n := 1) (m := 3 + 6 * l.length) (Seg.itdict ha) ?_) (by omega)
  have eb : ((some (Value.builtin "dict.__iter__") : Option Value) == some (Value.builtin "dict.__iter__")) = true := by decide +kernel
  refine Seg.cast (Seg.bind (n := 0) (m := 3 + 6 * l.length) (a := true) (by rw [eb]; exact Seg.pure _ _) ?_) (by omega)
  dsimp only
  rw [hs]
  simp only [Bool.false_eq_true, if_false]
  refine Seg.cast (Seg.bind (n := 1) (m := 2 + 6 * l.length) (Seg.entries _ hd) ?_) (by omega)
  rw [h0]
  simp only [Bool.false_eq_true, if_false]
  refine Seg.cast (Seg.bind (n := 1) (m := 1 + 6 * l.length) (Seg.entries _ ha) ?_) (by omega)
  refine Seg.bind (n := 1) (m := 6 * l.length) (Seg.epoch _ ha) ?_
  rw [List.size_toArray, List.range_eq_range']
  have ha' : ∀ es n, (HD H d es n).get? a = some (dO l.toArray n2) := fun es n => (HD_get_ne hne).trans ha
  refine Seg.bind (n := 6 * l.length) (m := 0) (a := ⟨⟩) (s₁ := ⟨HD H d (es ++ l.toArray) (n + l.length), g, dr, t, os⟩) ?_ (Seg.pure _ _)
  have main := fun f hf => Seg.forUnit (w := w) (p := p) (b := b) (k := 6) (f := f) (fun j => ⟨HD H d (es ++ (l.take j).toArray) (n + j), g, dr, t, os⟩) l.length 0 hf
  have hS : (⟨H, g, dr, t, os⟩ : Shared) = ⟨HD H d (es ++ (l.take 0).toArray) (n + 0), g, dr, t, os⟩ := by
    have := upd_id hd
    unfold HD
    rw [show es ++ (l.take 0).toArray = es by simp, Nat.add_zero, this]
  have hE : (⟨HD H d (es ++ l.toArray) (n + l.length), g, dr, t, os⟩ : Shared) = ⟨HD H d (es ++ (l.take (0 + l.length)).toArray) (n + (0 + l.length)), g, dr, t, os⟩ := by
    rw [Nat.zero_add, List.take_length]
  rw [hS, hE]
  refine main _ fun j _ hj => ?_
  have hj' : j < l.length := by omega
  have el : l = l.take j ++ l[j] :: l.drop (j + 1) := by simp
  refine Seg.bind (n := 1) (m := 5) (Seg.entries _ (ha' _ _)) ?_
  have hx : l.toArray[j]? = some l[j] := by simp [hj']
  rw [hx]
  dsimp only
  obtain ⟨i, u, hkey⟩ := hk l[j] (List.getElem_mem hj')
  rw [hkey]
  refine Seg.bind (n := 4) (m := 1) (Seg.keep _ (Seg.dput (HD_get hd) h28 ?_ ?_)) ?_
  · simp; omega
  · intro e he q
    rw [el] at hnd
    rw [List.map_append, List.map_cons, ← List.append_assoc] at hnd
    refine (List.nodup_append.mp hnd).2.2 e.hash ?_ l[j].hash (.head _) q
    rw [← List.map_append]
    refine List.mem_map_of_mem ?_
    rw [List.mem_append]
    rw [Array.mem_append] at he
    rcases he with he | he
    · exact .inl (by simpa using he)
    · exact .inr (by simpa using he)
  · rw [HD_push]
    refine Seg.bind (n := 1) (m := 0) (Seg.epoch _ (ha' _ _)) ?_
    rw [show (n2 != n2) = false by simp]
    simp only [Bool.false_eq_true, if_false]
    refine Seg.state (Seg.pure _ _) ?_
    have ee : (⟨l[j].hash, .int i u, l[j].val⟩ : DictEntry) = l[j] := by rw [← hkey]
    have q : (es ++ (l.take j).toArray).push ⟨l[j].hash, .int i u, l[j].val⟩ = es ++ (l.take (j + 1)).toArray := by
      rw [ee, List.take_succ_eq_append_getElem hj', ← Array.append_push, List.push_toArray]
    rw [q]
    rfl
end
end
section
open PySem PySem.W PyProof.Rows
set_option maxRecDepth 1000000
set_option maxHeartbeats 400000
noncomputable def pushAll : Heap → List Obj → Heap
  | H, [] => H
  | H, o :: r => pushAll (H.push o) r
theorem push_upd (H : Heap) (o : Obj) (f : Obj → Obj) : (H.push o).update H.objs.size f = H.push (f o) := by
  obtain ⟨objs, l⟩ := H
  show Heap.mk _ _ = Heap.mk _ _
  congr 1
  apply Array.ext_getElem?
  intro i
  rw [Array.getElem?_modify, Array.getElem?_push, Array.getElem?_push]
  by_cases e : i = objs.size
  · simp [e]
  · have e' : ¬ objs.size = i := fun q => e q.symm
    simp [e, e']
theorem upd_push (H : Heap) (o : Obj) (f : Obj → Obj) {a : Nat} (h : a < H.objs.size) : (H.push o).update a f = (H.update a f).push o := by
  obtain ⟨objs, l⟩ := H
  show Heap.mk _ _ = Heap.mk _ _
  congr 1
  apply Array.ext_getElem?
  intro i
  rw [Array.getElem?_modify, Array.getElem?_push, Array.getElem?_push, Array.getElem?_modify, Array.size_modify]
  have h' : a < objs.size := h
  by_cases e : i = objs.size
  · subst e
    have e' : ¬ a = objs.size := by omega
    simp [e']
  · simp [e]
theorem push_size (H : Heap) (o : Obj) : (H.push o).objs.size = H.objs.size + 1 := Heap.size_push ..
theorem pushAll_size : ∀ (l : List Obj) (H : Heap), (pushAll H l).objs.size = H.objs.size + l.length
  | [], H => rfl
  | o :: r, H => by show (pushAll (H.push o) r).objs.size = _; rw [pushAll_size r, push_size, List.length_cons]; omega
theorem pushAll_get : ∀ (l : List Obj) (H : Heap) (a : Addr) (o : Obj), H.get? a = some o → (pushAll H l).get? a = some o
  | [], _, _, _, h => h
  | x :: r, H, a, o, h => pushAll_get r (H.push x) a o (Heap.get?_push_of_some _ h)
theorem pushAll_upd : ∀ (l : List Obj) (H : Heap) (a : Nat) (f : Obj → Obj), a < H.objs.size → (pushAll H l).update a f = pushAll (H.update a f) l
  | [], _, _, _, _ => rfl
  | x :: r, H, a, f, h => by
    show (pushAll (H.push x) r).update a f = pushAll ((H.update a f).push x) r
    rw [pushAll_upd r _ a f (by rw [push_size]; omega), upd_push H x f h]
theorem pushAll_snoc : ∀ (l : List Obj) (H : Heap) (o : Obj), (pushAll H l).push o = pushAll H (l ++ [o])
  | [], _, _ => rfl
  | x :: r, H, o => pushAll_snoc r (H.push x) o
noncomputable def tabc (i : Nat) : List (Int × Str) := (tab88.drop (17 * i)).take 17
noncomputable def EE (j : Nat) : Array DictEntry := esA 589 (tab88.take (17 * j))
noncomputable def subO (i : Nat) : Obj := dO (esA (589 + 51 * i) (tabc i)) 17
theorem tab_len : tab88.length = 650 := by decide +kernel
noncomputable def ascB : List Int → Bool
  | [] => true
  | x :: r => (match r with | [] => true | y :: _ => decide (x < y)) && ascB r
theorem asc_lt : ∀ (l : List Int) (x : Int), ascB (x :: l) = true → ∀ y ∈ l, x < y
  | [], _, _, _, h => nomatch h
  | z :: r, x, h, y, hy => by
    obtain ⟨h1, h2⟩ := Bool.and_eq_true_iff.mp h
    have h1 : x < z := of_decide_eq_true h1
    rcases List.mem_cons.mp hy with rfl | hy
    · exact h1
    · have := asc_lt r z h2 y hy
      omega
theorem asc_nodup : ∀ (l : List Int), ascB l = true → l.Nodup
  | [], _ => List.nodup_nil
  | x :: r, h => List.nodup_cons.mpr ⟨fun hm => absurd (asc_lt r x h x hm) (by omega), asc_nodup r (Bool.and_eq_true_iff.mp h).2⟩
theorem tab_nodup : (tab88.map fun kv => hashInt kv.1).Nodup := asc_nodup _ (by decide +kernel)
theorem ents_app (st : Nat) : ∀ (l r : List (Int × Str)) (t : Nat), ents st t (l ++ r) = ents st t l ++ ents st (t + st * l.length) r
  | [], r, t => rfl
  | kv :: l, r, t => by
    show _ :: ents st (t + st) (l ++ r) = _ :: (ents st (t + st) l ++ _)
    rw [ents_app st l r, List.length_cons, Nat.mul_succ]
    have e : t + st + st * l.length = t + (st * l.length + st) := by omega
    rw [e]
theorem ents_maphash (st : Nat) : ∀ (l : List (Int × Str)) (t : Nat), (ents st t l).map (·.hash) = l.map fun kv => hashInt kv.1
  | [], _ => rfl
  | kv :: r, t => by show hashInt kv.1 :: (ents st (t + st) r).map (·.hash) = _; rw [ents_maphash st r]; rfl
theorem ents_key (st : Nat) : ∀ (l : List (Int × Str)) (t : Nat) (e : DictEntry), e ∈ ents st t l → ∃ i u, e.key = .int i u
  | [], _, _, h => nomatch h
  | kv :: r, t, e, h => by
    rcases List.mem_cons.mp h with rfl | h
    · exact ⟨_, _, rfl⟩
    · exact ents_key st r _ _ h
theorem take_step (i : Nat) : tab88.take (17 * (i + 1)) = tab88.take (17 * i) ++ tabc i := by
  unfold tabc
  rw [Nat.mul_succ, List.take_add]
theorem EE_step {i : Nat} (hi : i < 38) : EE i ++ esA (589 + 51 * i) (tabc i) = EE (i + 1) := by
  unfold EE esA
  rw [take_step, ents_app, List.length_take, tab_len, show min (17 * i) 650 = 17 * i by omega, show 589 + 3 * (17 * i) = 589 + 51 * i by omega]
  simp
theorem EE_size {i : Nat} (hi : i ≤ 38) : (EE i).size = 17 * i := by
  unfold EE esA
  rw [List.size_toArray, ents_len, List.length_take, tab_len]; omega
theorem tabc_len {i : Nat} (hi : i < 38) : (tabc i).length = 17 := by
  unfold tabc
  rw [List.length_take, List.length_drop, tab_len]; omega
theorem tabc_nodup {i : Nat} : ((tabc i).map fun kv => hashInt kv.1).Nodup := by
  unfold tabc
  exact tab_nodup.sublist (((List.take_sublist _ _).trans (List.drop_sublist _ _)).map _)
section
variable {w : World} {p : Program} {b : List Stmt} {g : Array GenState} {dr : Drawn} {os : OsState} {H₀ : Heap}
noncomputable def CH (H₀ : Heap) (i : Nat) : Heap := pushAll (H₀.push (dO (EE (i + 1)) (17 * (i + 1)))) ((List.range' 1 i).map subO)
theorem CH_size (hs : H₀.objs.size = 88) (i : Nat) : (CH H₀ i).objs.size = 89 + i := by
  unfold CH
  rw [pushAll_size, push_size, hs, List.length_map, List.length_range']
theorem CH_get (hs : H₀.objs.size = 88) (i : Nat) : (CH H₀ i).get? 88 = some (dO (EE (i + 1)) (17 * (i + 1))) := by
  unfold CH
  refine pushAll_get _ _ _ _ ?_
  have := Heap.get?_push_size (h := H₀) (o := dO (EE (i + 1)) (17 * (i + 1))) rfl
  rw [hs] at this
  exact this
theorem CH_step (hs : H₀.objs.size = 88) (i : Nat) : HD ((CH H₀ i).push (subO (i + 1))) 88 (EE (i + 2)) (17 * (i + 2)) = CH H₀ (i + 1) := by
  unfold HD CH
  rw [pushAll_snoc, pushAll_upd _ _ _ _ (by rw [push_size]; omega)]
  have : (H₀.push (dO (EE (i + 1)) (17 * (i + 1)))).update 88 (fun _ => dO (EE (i + 2)) (17 * (i + 2))) = H₀.push (dO (EE (i + 2)) (17 * (i + 2))) := by
    have := push_upd H₀ (dO (EE (i + 1)) (17 * (i + 1))) (fun _ => dO (EE (i + 2)) (17 * (i + 2)))
    rw [hs] at this
    exact this
  rw [this, List.range'_concat, List.map_append, show 1 + 1 * i = i + 1 by omega]
  rfl
theorem Seg.chunk (hs : H₀.objs.size = 88) (i : Nat) (hi : i < 37) :
    Seg w p b 330 ⟨CH H₀ i, g, dr, 589 + 51 * (i + 1), os⟩ (flX ((tabc (i + 1)).map pr) (some 88)) ⟨CH H₀ (i + 1), g, dr, 589 + 51 * (i + 2), os⟩ (some 88) := by
  unfold flX
  have hl := tabc_len (i := i + 1) (by omega)
  refine Seg.bind (n := 223) (m := 107) (Seg.keep _ (Seg.sub17 (tabc (i + 1)) hl (by rw [CH_size hs]; exact Nat.ble_eq_true_of_le (by omega)) tabc_nodup)) ?_
  rw [CH_size hs]
  have e1 : HD ((CH H₀ i).push (dO #[] 0)) (89 + i) (esA (589 + 51 * (i + 1)) (tabc (i + 1))) 17 = (CH H₀ i).push (subO (i + 1)) := by
    have := push_upd (CH H₀ i) (dO #[] 0) (fun _ => subO (i + 1))
    rw [CH_size hs] at this
    exact this
  rw [e1]
  have hd : ((CH H₀ i).push (subO (i + 1))).get? 88 = some (dO (EE (i + 1)) (17 * (i + 1))) := Heap.get?_push_of_some _ (CH_get hs i)
  have ha : ((CH H₀ i).push (subO (i + 1))).get? (89 + i) = some (subO (i + 1)) := by
    have := Heap.get?_push_size (h := CH H₀ i) (o := subO (i + 1)) rfl
    rw [CH_size hs] at this
    exact this
  have hlen : (ents 3 (589 + 51 * (i + 1)) (tabc (i + 1))).length = 17 := by rw [ents_len, hl]
  have mg := Seg.merge (w := w) (p := p) (b := b) (g := g) (dr := dr) (t := 589 + 51 * (i + 1) + 51) (os := os) (ents 3 (589 + 51 * (i + 1)) (tabc (i + 1))) hd (by decide) ha (fun q => absurd (show (88 : Nat) = 89 + i from q) (by omega)) (beq_eq_false_iff_ne.mpr fun q => absurd (show (89 + i : Nat) = sysModules from q) (by unfold sysModules; omega))
    (by
      have := EE_size (i := i + 1) (by omega)
      rw [Array.isEmpty_eq_false_iff]
      intro q
      rw [q] at this
      simp at this) (by rw [EE_size (by omega), hlen]; omega) (ents_key 3 _ _) (by
      have e2 : (EE (i + 1)).toList.map (·.hash) = (tab88.take (17 * (i + 1))).map fun kv => hashInt kv.1 := by
        unfold EE esA
        rw [← ents_maphash 3 _ 589]
      rw [e2, ents_maphash, ← List.map_append, ← take_step]
      exact tab_nodup.sublist ((List.take_sublist _ _).map _))
  rw [hlen] at mg
  refine Seg.bind (n := 107) (m := 0) (Seg.onRaise (Seg.keep _ mg)) ?_
  refine Seg.state (Seg.pure _ _) ?_
  have e3 : EE (i + 1) ++ (ents 3 (589 + 51 * (i + 1)) (tabc (i + 1))).toArray = EE (i + 2) := EE_step (i := i + 1) (by omega)
  rw [e3, show 17 * (i + 1) + 17 = 17 * (i + 2) by omega, CH_step hs i, show 589 + 51 * (i + 1) + 51 = 589 + 51 * (i + 2) by omega]
end
end
section
open PySem PySem.W PyProof.Rows
set_option maxRecDepth 1000000
set_option maxHeartbeats 400000
section
variable {w : World} {p : Program} {b : List Stmt} {g : Array GenState} {dr : Drawn} {os : OsState} {H₀ : Heap}
theorem Seg.first (hs : H₀.objs.size = 88) : Seg w p b 223 ⟨H₀, g, dr, 589, os⟩ (flX ((tabc 0).map pr) none) ⟨CH H₀ 0, g, dr, 640, os⟩ (some 88) := by
  unfold flX
  have s := Seg.sub17 (w := w) (p := p) (b := b) (H := H₀) (g := g) (dr := dr) (t := 589) (os := os) (tabc 0) (tabc_len (by omega)) (by rw [hs]; decide) tabc_nodup
  have e1 : HD (H₀.push (dO #[] 0)) H₀.objs.size (esA 589 (tabc 0)) 17 = CH H₀ 0 := by
    have := push_upd H₀ (dO #[] 0) (fun _ => dO (esA 589 (tabc 0)) 17)
    unfold HD
    rw [this]
    rfl
  rw [e1, hs] at s
  exact Seg.bind (n := 223) (m := 0) s (Seg.pure _ _)
noncomputable def tabL : List (Int × Str) := tab88.drop 646
theorem tabL_len : tabL.length = 4 := by unfold tabL; rw [List.length_drop, tab_len]
noncomputable def CL (H₀ : Heap) : Heap := pushAll (H₀.push ob88) ((List.range' 1 37).map subO ++ [dO (ents 2 2527 tabL).toArray 4])
theorem Seg.last (hs : H₀.objs.size = 88) : Seg w p b 82 ⟨CH H₀ 37, g, dr, 2527, os⟩ (flX (tabL.map pr) (some 88)) ⟨CL H₀, g, dr, 2539, os⟩ (some 88) := by
  unfold flX
  have s := Seg.sub4 (w := w) (p := p) (b := b) (H := CH H₀ 37) (g := g) (dr := dr) (t := 2527) (os := os) tabL (by rw [tabL_len]; omega) (by rw [CH_size hs]; decide) (by
    unfold tabL; exact tab_nodup.sublist ((List.drop_sublist _ _).map _))
  have e1 : HD ((CH H₀ 37).push (dO #[] 0)) (CH H₀ 37).objs.size (ents 2 2527 tabL).toArray 4 = (CH H₀ 37).push (dO (ents 2 2527 tabL).toArray 4) := push_upd (CH H₀ 37) (dO #[] 0) (fun _ => dO (ents 2 2527 tabL).toArray 4)
  rw [tabL_len, e1, CH_size hs] at s
  refine Seg.bind (n := 53) (m := 29) (Seg.keep _ s) ?_
  have hd : ((CH H₀ 37).push (dO (ents 2 2527 tabL).toArray 4)).get? 88 = some (dO (EE 38) 646) := Heap.get?_push_of_some _ (CH_get hs 37)
  have ha : ((CH H₀ 37).push (dO (ents 2 2527 tabL).toArray 4)).get? 126 = some (dO (ents 2 2527 tabL).toArray 4) := by
    have := Heap.get?_push_size (h := CH H₀ 37) (o := dO (ents 2 2527 tabL).toArray 4) rfl
    rw [CH_size hs] at this
    exact this
  have hlen : (ents 2 2527 tabL).length = 4 := by rw [ents_len, tabL_len]
  have hes : (EE 38).size = 646 := EE_size (by omega)
  have mg := Seg.merge (w := w) (p := p) (b := b) (g := g) (dr := dr) (t := 2539) (os := os) (ents 2 2527 tabL) hd (by decide) ha (by decide) (by decide)
    (by
      rw [Array.isEmpty_eq_false_iff]
      intro q
      rw [q] at hes
      simp at hes) (by rw [hes, hlen]; decide) (ents_key 2 _ _) (by
      have e2 : (EE 38).toList.map (·.hash) = (tab88.take 646).map fun kv => hashInt kv.1 := by
        unfold EE esA
        rw [← ents_maphash 3 _ 589]
      rw [e2, ents_maphash, ← List.map_append]
      unfold tabL
      rw [List.take_append_drop]
      exact tab_nodup)
  rw [hlen] at mg
  refine Seg.bind (n := 29) (m := 0) (Seg.onRaise (Seg.keep _ mg)) ?_
  refine Seg.state (Seg.pure _ _) ?_
  have e3 : EE 38 ++ (ents 2 2527 tabL).toArray = es88.toArray := by
    unfold EE esA es88 tabL
    rw [List.append_toArray]
  rw [e3]
  have e4 : HD ((CH H₀ 37).push (dO (ents 2 2527 tabL).toArray 4)) 88 es88.toArray (646 + 4) = CL H₀ := by
    unfold HD CH CL
    rw [pushAll_snoc, pushAll_upd _ _ _ _ (by rw [push_size]; omega)]
    have := push_upd H₀ (dO (EE (37 + 1)) (17 * (37 + 1))) (fun _ => dO es88.toArray 650)
    rw [hs] at this
    rw [this]
  rw [e4]
noncomputable def rest (i : Nat) : List (Option (Sem Value) × Sem Value) := ((tab88.drop (17 * i)).map pr).map wrS
theorem rest_step (i : Nat) : rest i = ((tabc i).map pr).map wrS ++ rest (i + 1) := by
  unfold rest tabc
  rw [← List.map_append, ← List.map_append]
  congr 2
  have h := (List.take_append_drop 17 (tab88.drop (17 * i))).symm
  rw [List.drop_drop] at h
  rw [show 17 * (i + 1) = 17 * i + 17 by omega]
  exact h
theorem Seg.disp (hs : H₀.objs.size = 88) : Seg w p b 12515 ⟨H₀, g, dr, 589, os⟩ (dictDisplay (rest 0)) ⟨CL H₀, g, dr, 2539, os⟩ (.ref 88) := by
  obtain ⟨body, fin, d1, d2, d3, d4⟩ := disp_parts
  rw [d1]
  have tail : ∀ j i, i + j = 37 → Seg w p b (330 * j + 82) ⟨CH H₀ i, g, dr, 589 + 51 * (i + 1), os⟩ ((forIn (rest (i + 1)) ((some 88, []) : MP) body) >>= fin) ⟨CL H₀, g, dr, 2539, os⟩ (.ref 88) := by
    intro j
    induction j with
    | zero =>
      intro i hi
      obtain rfl : i = 37 := by omega
      have e : rest 38 = (tabL.map pr).map wrS := rfl
      rw [e, loop4 d2 (some 88) (tabL.map pr) [] (by rw [List.length_map, tabL_len]; decide)]
      refine Seg.cast (Seg.bind (n := 0) (m := 82) (Seg.pure _ _) ?_) (by omega)
      rw [List.nil_append]
      have hne : ∃ x r, tabL.map pr = x :: r := by
        cases h : tabL.map pr with
        | nil => have := congrArg List.length h; rw [List.length_map, tabL_len] at this; cases this
        | cons x r => exact ⟨x, r, rfl⟩
      obtain ⟨x, r, hx⟩ := hne
      rw [hx, d4]
      refine Seg.bind (n := 82) (m := 0) (hx ▸ Seg.last hs) (Seg.pure _ _)
    | succ j ih =>
      intro i hi
      rw [rest_step, loop17 d2 d3 (rest (i + 1 + 1)) (some 88) ((tabc (i + 1)).map pr) [] (by rw [List.length_map, tabc_len (by omega)]; rfl) (by
        intro q
        have := congrArg List.length q
        rw [List.length_map, tabc_len (by omega)] at this
        cases this), List.nil_append]
      have e : ∀ (x : Sem (Option Addr)) (f : Option Addr → Sem MP) (k : MP → Sem Value), (x >>= f) >>= k = x >>= fun a => f a >>= k := fun x f k => Sem.bind_assoc _ _ _
      rw [e]
      exact Seg.cast (Seg.bind (n := 330) (m := 330 * j + 82) (Seg.chunk hs i (by omega)) (ih (i + 1) (by omega))) (by omega)
  rw [rest_step, loop17 d2 d3 (rest 1) none ((tabc 0).map pr) [] (by rw [List.length_map, tabc_len (by omega)]; rfl) (by
        intro q
        have := congrArg List.length q
        rw [List.length_map, tabc_len (by omega)] at this
        cases this), List.nil_append]
  have e : ∀ (x : Sem (Option Addr)) (f : Option Addr → Sem MP) (k : MP → Sem Value), (x >>= f) >>= k = x >>= fun a => f a >>= k := fun x f k => Sem.bind_assoc _ _ _
  rw [e]
  exact Seg.bind (n := 223) (m := 12292) (Seg.first hs) (tail 37 0 rfl)
end
end
section
open PySem PySem.W PyProof.Rows
set_option maxRecDepth 1000000
set_option maxHeartbeats 400000
noncomputable def p13 : Pos := match stm 13 with
  | .Assign _ _ q => q
  | _ => default
noncomputable def st13 (v : Value) : Sem Flow := match stm 13 with
  | .Assign targets value _ => do assignStores env1 v (← swappedStores targets value env1) ((assignEach targets env1).map (·.2))
  | _ => pure .next
theorem exec13 : exec (stm 13) env1 = standAt p13 >>= fun _ => ((standAt dpos >>= fun _ => dictDisplay (rest 0)) >>= st13) := by
  kernel_rfl
theorem heapB (P : Params) : absHeap (t15b P) 127 {} = CL (absHeap (t14 P) 88 {}) := by
  kernel_rfl
end
section
open PySem PySem.W PyProof.Rows
set_option maxRecDepth 1000000
set_option maxHeartbeats 400000
noncomputable abbrev pw : Program := PySem.Challenge.pw_rx0107_01
theorem te_imp : @importEnds = PySem.W.Fast.tw10274390034422433532 := PySem.W.Fast.te10274390034422433532
theorem te_tab : treeTable = PySem.W.Fast.tw14364793385576792824 := PySem.W.Fast.te14364793385576792824
theorem te_fen : @fenceModules? = PySem.W.Fast.tw14289696077712309145 := PySem.W.Fast.te14289696077712309145
theorem imp_end (w : World) : importEnds treeTable (opening pw) w 1000 (start (opening pw)).1 (start (opening pw)).2 = some ⟨heapE w.params, #[], {}, 276, (start (opening pw)).1.os⟩ := by
  rw [te_imp, te_tab]
  kernel_rfl
theorem imp_fence (w : World) : (fun os => (fenceModules? pw ⟨heapE w.params, #[], {}, 276, os⟩).map (fun s => (s.heap, s.gens, s.drawn, s.toks))) = fun _ => some (heap0 w.params, #[], {}, 276) := by
  rw [te_fen]
  kernel_rfl
end
section
open PySem PySem.W PyProof.Rows
set_option maxRecDepth 1000000
set_option maxHeartbeats 400000
theorem te_run : @segRunT = PySem.W.Fast.tw10110043849684766642 := PySem.W.Fast.te10110043849684766642
theorem te_top : @topGo = PySem.W.Fast.tw15667345088766844465 := PySem.W.Fast.te15667345088766844465
noncomputable abbrev BS : List Stmt := behindTheImports pw
noncomputable abbrev tF : List Frame := [topFrame default]
noncomputable def grA : List Stmt := [stm 1, stm 2, stm 3, stm 4]
noncomputable def grB : List Stmt := [stm 6, stm 7, stm 8, stm 9, stm 10]
noncomputable def grC : List Stmt := [stm 14, stm 15, stm 16, stm 17, stm 18, stm 19, stm 20, stm 21, stm 22, stm 23]
theorem gPre (w : World) : (fun os => topGo treeTable pw w 28 (some (.ref 6)) 12 ⟨heap0 w.params, #[], {}, 276, os⟩ (topStub pw)) = fun os => some ((s2 w os).abs, ⟨denote treeTable (BB BS), BB BS, po2, tF⟩) := by
  kernel_rfl
theorem gBlk (w : World) : (fun os => segRun treeTable pw w 28 (some (.ref 6)) 1 1 (s2 w os).abs (blockOf BS env1 (BB BS) po2 tF)) = fun os => some (Flow.next, (s2 w os).abs, BB BS, po2) := by
  kernel_rfl
theorem gA (w : World) (p : Program) (b : List Stmt) : (fun os => segRunT treeTable p w 28 (some (.ref 6)) 1 131 (s2 w os) (piecesOf grA env1 (BB b) po2 tF)) = fun os => some (Flow.next, s6 w os, BB b, po6) := by
  rw [te_run, te_tab]
  kernel_rfl
theorem gB (w : World) (p : Program) (b : List Stmt) : (fun os => segRunT treeTable p w 28 (some (.ref 6)) 1 124 (s7 w os) (piecesOf grB env1 (BB b) po7 tF)) = fun os => some (Flow.next, s12 w os, BB b, po12) := by
  rw [te_run, te_tab]
  kernel_rfl
theorem g12 (w : World) (p : Program) (b : List Stmt) : (fun os => segRunT treeTable p w 28 (some (.ref 6)) 1 30 (s13 w os) (piecesOf [stm 12] env1 (BB b) po13 tF)) = fun os => some (Flow.next, s14 w os, BB b, po14) := by
  rw [te_run, te_tab]
  kernel_rfl
theorem gC (w : World) (p : Program) (b : List Stmt) : (fun os => segRunT treeTable p w 28 (some (.ref 6)) 1 270 (s15 w os) (piecesOf grC env1 (BB b) po15 tF)) = fun os => some (Flow.next, s25 w os, BB b, po25) := by
  rw [te_run, te_tab]
  kernel_rfl
noncomputable def s15b (w : World) (os : OsState) : SharedT := ⟨t15b w.params, 127, {}, #[], {}, 2539, os⟩
theorem g13e (w : World) (p : Program) (b : List Stmt) (gd : Bool → Bool) (lv : List Value → List Value) : (fun os => segRunT treeTable p w 28 (some (.ref 6)) 1 8 (s15b w os) ⟨(st13 (.ref 88)).wrap doneF deadEnd gd lv, BB b, dpos, tF⟩) = fun os => some (Flow.next, s15 w os, BB b, po15) := by
  rw [te_run, te_tab]
  kernel_rfl
end
section
open PySem PySem.W PyProof.Rows
set_option maxRecDepth 1000000
set_option maxHeartbeats 400000
theorem te_runB : @segRunT = PySem.W.Fast.tw10110043849684766642 := PySem.W.Fast.te10110043849684766642
noncomputable abbrev P5 (p : Program) (b : List Stmt) (w : World) : Prop := (fun os => segRunT treeTable p w 28 (some (.ref 6)) 1 1260 (s6 w os) (piecesOf [stm 5] env1 (BB b) po6 [topFrame default])) = fun os => some (Flow.next, s7 w os, BB b, po7)
theorem g5ff (w : World) (p : Program) (b : List Stmt) : P5 p b ((w.withFollow "comprehension-iter-twice" false).withFollow "special-get-raises" false) := by
  unfold P5; rw [te_runB, te_tab]; kernel_rfl
theorem g5ft (w : World) (p : Program) (b : List Stmt) : P5 p b ((w.withFollow "comprehension-iter-twice" false).withFollow "special-get-raises" true) := by
  unfold P5; rw [te_runB, te_tab]; kernel_rfl
theorem g5tf (w : World) (p : Program) (b : List Stmt) : P5 p b ((w.withFollow "comprehension-iter-twice" true).withFollow "special-get-raises" false) := by
  unfold P5; rw [te_runB, te_tab]; kernel_rfl
theorem g5tt (w : World) (p : Program) (b : List Stmt) : P5 p b ((w.withFollow "comprehension-iter-twice" true).withFollow "special-get-raises" true) := by
  unfold P5; rw [te_runB, te_tab]; kernel_rfl
theorem g5 (w : World) (p : Program) (b : List Stmt) : P5 p b w :=
  byRow2 (P := P5 p b) "special-get-raises" (fun w => byRow2 (P := fun w => P5 p b (w.withFollow "special-get-raises" false)) "comprehension-iter-twice" (fun w => g5ff w p b) (fun w => g5tf w p b) w)
    (fun w => byRow2 (P := fun w => P5 p b (w.withFollow "special-get-raises" true)) "comprehension-iter-twice" (fun w => g5ft w p b) (fun w => g5tt w p b) w) w
noncomputable abbrev P11 (p : Program) (b : List Stmt) (w : World) : Prop := (fun os => segRunT treeTable p w 28 (some (.ref 6)) 1 1010 (s12 w os) (piecesOf [stm 11] env1 (BB b) po12 [topFrame default])) = fun os => some (Flow.next, s13 w os, BB b, po13)
theorem g11ff (w : World) (p : Program) (b : List Stmt) : P11 p b ((w.withFollow "set-order" false).withFollow "special-get-raises" false) := by
  unfold P11; rw [te_runB, te_tab]; kernel_rfl
theorem g11ft (w : World) (p : Program) (b : List Stmt) : P11 p b ((w.withFollow "set-order" false).withFollow "special-get-raises" true) := by
  unfold P11; rw [te_runB, te_tab]; kernel_rfl
theorem g11tf (w : World) (p : Program) (b : List Stmt) : P11 p b ((w.withFollow "set-order" true).withFollow "special-get-raises" false) := by
  unfold P11; rw [te_runB, te_tab]; kernel_rfl
theorem g11tt (w : World) (p : Program) (b : List Stmt) : P11 p b ((w.withFollow "set-order" true).withFollow "special-get-raises" true) := by
  unfold P11; rw [te_runB, te_tab]; kernel_rfl
theorem g11 (w : World) (p : Program) (b : List Stmt) : P11 p b w :=
  byRow2 (P := P11 p b) "special-get-raises" (fun w => byRow2 (P := fun w => P11 p b (w.withFollow "special-get-raises" false)) "set-order" (fun w => g11ff w p b) (fun w => g11tf w p b) w)
    (fun w => byRow2 (P := fun w => P11 p b (w.withFollow "special-get-raises" true)) "set-order" (fun w => g11ft w p b) (fun w => g11tt w p b) w) w
end
section
open PySem PySem.W PyProof.Rows
set_option maxRecDepth 1000000
set_option maxHeartbeats 400000
noncomputable abbrev ann6 : Option Value := some (.ref 6)
theorem sgo_run {tb : String → Option Builtin} {p : Program} {w : World} {n₀ : Nat} {ann : Option Value} {b n N : Nat} {s s' : Shared} {t t' : Thread} {r : Flow × Shared × Code × Pos} (h : segGo tb p w n₀ ann b n s t = some (s', t')) (k : segRun tb p w n₀ ann b N s' t' = some r) : segRun tb p w n₀ ann b (n + N) s t = some r := seg_go h k
@[irreducible] noncomputable def dd : Sem Value := dictDisplay (rest 0)
theorem dd_eq : dd = dictDisplay (rest 0) := by unfold dd; exact rfl
theorem exec13d : exec (stm 13) env1 = standAt p13 >>= fun _ => ((standAt dpos >>= fun _ => dd) >>= st13) := by
  rw [dd_eq]; exact exec13
theorem two_stands {p : Program} {w : World} {b : List Stmt} {s : Shared} {α β : Type} (x : Sem α) (f : α → Sem β) (K : β → Sem Fin) (H : Value → Sem Fin) (pos : Pos) :
    segGo treeTable p w 28 ann6 1 2 s ⟨(standAt p13 >>= fun _ => ((standAt dpos >>= fun _ => x) >>= f)).wrap K H id id, BB b, pos, tF⟩ = some (s, ⟨(x >>= f).wrap K H id id, BB b, dpos, tF⟩) := rfl
theorem disp_wrap {p : Program} {w : World} {b : List Stmt} (os : OsState) (K : Flow → Sem Fin) (H : Value → Sem Fin) :
    segGo treeTable p w 28 ann6 1 12515 ⟨absHeap (t14 w.params) 88 {}, #[], {}, 589, os⟩ ⟨(dd >>= st13).wrap K H id id, BB b, dpos, tF⟩ = some (⟨absHeap (t15b w.params) 127 {}, #[], {}, 2539, os⟩, ⟨(st13 (.ref 88)).wrap K H (fun g => id (id g)) (fun l => id (id l)), BB b, dpos, tF⟩) := by
  have hs : (absHeap (t14 w.params) 88 {}).objs.size = 88 := absHeap_size ..
  have h2 := Seg.disp (w := w) (p := p) (b := b) (g := #[]) (dr := {}) (os := os) hs
  rw [← dd_eq] at h2
  rw [heapB, Sem.bind_eq_wrap', Sem.wrap_wrap]
  exact h2 _ _ _ _
theorem g13 (w : World) (p : Program) (b : List Stmt) (os : OsState) : segRun treeTable p w 28 ann6 1 12525 (s14 w os).abs (pieceOf (stm 13) env1 (BB b) po14 tF) = some (.next, (s15 w os).abs, BB b, po15) := by
  have e0 : (s14 w os).abs = ⟨absHeap (t14 w.params) 88 {}, #[], {}, 589, os⟩ := rfl
  have e1 : (s15b w os).abs = ⟨absHeap (t15b w.params) 127 {}, #[], {}, 2539, os⟩ := rfl
  have h4 := segRun_of (congrFun (g13e w p b (fun g => id (id g)) (fun l => id (id l))) os)
  rw [e1] at h4
  unfold pieceOf
  rw [exec13d, e0]
  exact seg_go (two_stands dd st13 doneF deadEnd po14) (seg_go (disp_wrap os doneF deadEnd) h4)
theorem body_eq : BS = grA ++ ([stm 5] ++ (grB ++ ([stm 11] ++ ([stm 12] ++ (stm 13 :: (grC ++ [])))))) := by kernel_rfl
theorem top_run (w : World) (os : OsState) : topRun treeTable pw w 28 ann6 (12 + (1 + (131 + (1260 + (124 + (1010 + (30 + (12525 + (270 + 2))))))))) ⟨heap0 w.params, #[], {}, 276, os⟩ (topStub pw) = some (s25 w os).abs := by
  refine go_top (congrFun (gPre w) os) ?_
  refine piece_block (congrFun (gBlk w) os) ?_
  have k : topRun treeTable pw w 28 ann6 2 (s25 w os).abs (restOf [] env1 (BB BS) po25 [topFrame default]) = some (s25 w os).abs := by
    kernel_rfl
  have k := piece_app (segRun_of (congrFun (gC w pw BS) os)) k
  have k := piece_cons (g13 w pw BS os) k
  have k := piece_app (segRun_of (congrFun (g12 w pw BS) os)) k
  have k := piece_app (segRun_of (congrFun (g11 w pw BS) os)) k
  have k := piece_app (segRun_of (congrFun (gB w pw BS) os)) k
  have k := piece_app (segRun_of (congrFun (g5 w pw BS) os)) k
  have k := piece_app (segRun_of (congrFun (gA w pw BS) os)) k
  rw [← body_eq] at k
  exact k
end
section
open PySem PySem.W PyProof.Rows
set_option maxRecDepth 1000000
set_option maxHeartbeats 400000
noncomputable def qv : Program := { pw with main := { pw.main with body := [stm 0, stm 23] } }
noncomputable def loV : List Str := [Str.ofString "_twin_re_1", Str.ofString "translate", Str.ofString "_special_chars_map", Str.ofString "escape", Str.ofString "_translate", Str.ofString "_join_translated_parts", Str.ofString "b1_set", Str.ofString "in_table_b1", Str.ofString "b3_exceptions", Str.ofString "map_table_b3", Str.ofString "_law_several", Str.ofString "_law_nothing", Str.ofString "_law_piece", Str.ofString "_law_prepared", Str.ofString "_law_row", Str.ofString "_law_runs", Str.ofString "_law_text"]
noncomputable abbrev rowLaw : RowW := ((PySem.Challenge.rw_rx0107_01).row).toRowW
noncomputable def kAs : List Addr := [3, 35, 36, 37, 39, 40, 42, 43, 45, 49, 51, 52, 54, 55, 56, 58, 59, 61, 62, 63, 65, 66, 68, 69, 77, 81, 83, 84, 86, 87, 88, 127, 129, 130, 132, 133, 134, 136, 137, 139, 140, 141, 143, 144, 146, 147, 148, 150, 151, 153, 154, 155, 158, 159, 160, 162, 163, 165, 166, 167, 170, 171, 172, 175, 176, 177, 180, 181]
theorem kE : ∀ P, kAs = (K P).map (·.1) := by
  intro P
  kernel_rfl
noncomputable abbrev hkK : Hook := kmHook K kAs kE [57]
noncomputable abbrev XtV : Shared → Bool := fun s => xlAt qv [] s && recOk (RowW.records rowLaw) s
theorem te_seen : @openSeen = PySem.W.Fast.tw4187177175401517315 := PySem.W.Fast.te4187177175401517315
noncomputable abbrev H1 (P : Params) : Heap := absHeap (t25 P) 182 {}
noncomputable abbrev S1 (w : World) (os : OsState) : Shared := ⟨H1 w.params, #[], {}, 2612, os⟩
theorem lookA (w : World) : (fun os => (staticsOk (importedModules pw.main.body) (heap0 w.params) (H1 w.params) && namesBound pw (H1 w.params) && gensDone (S1 w os) && laidKept (heap0 w.params) (H1 w.params))) = fun _ => true := by
  kernel_rfl
theorem lB1 (w : World) : (fun os => seen ((recsOf qv).map (·.name)) (ownsOf qv) [] { S1 w os with gens := #[] }) = fun _ => expectedOf qv := by
  kernel_rfl
theorem lB2 (w : World) : (fun os => (S1 w os).heap.bltView) = fun _ => bltViewBooted := by
  kernel_rfl
theorem lB3a (w : World) : (fun os => (S1 w os).heap.keysOk (looseW qv loV) ((recsOf qv).map (·.name)) ((litsOf qv).map (·.1)) ((clssOf qv (looseW qv loV)).map (·.name))) = fun _ => true := by
  kernel_rfl
theorem te_acc : @Heap.accountedOkI = PySem.W.Fast.tw14722251495701143533 := PySem.W.Fast.te14722251495701143533
theorem lB3b (w : World) : (fun os => (S1 w os).heap.accountedOkI (importedModules pw.main.body)) = fun _ => true := by
  rw [te_acc]
  kernel_rfl
theorem lB3d (w : World) : (fun os => ((S1 w os).heap.isNs mainGlobals && (S1 w os).heap.isNs builtinsNs && tablesOk qv (S1 w os).heap)) = fun _ => true := by
  kernel_rfl
theorem lB3c (w : World) : (fun os => XtV (S1 w os) && ((S1 w os).gens.size == 0)) = fun _ => true := by
  kernel_rfl
theorem lB4 (w : World) : (fun os => tabsOk qv (S1 w os)) = fun _ => true := by
  kernel_rfl
theorem lB5 (w : World) : (fun os => pinSeenD qv (drecsOf qv) (S1 w os)) = fun _ => pinGoodD (drecsOf qv) := by
  kernel_rfl
theorem lB6 (w : World) : (fun os => plainSeenE qv (looseW qv loV) (S1 w os)) = fun _ => plainGoodE qv (looseW qv loV) := by
  kernel_rfl
theorem lB7 (w : World) : (fun os => plainSeenD qv loV (S1 w os)) = fun _ => plainGoodD qv loV := by
  kernel_rfl
theorem lB8 (w : World) : (fun os => wideSeen qv (S1 w os)) = fun _ => wideGood qv := by
  kernel_rfl
theorem lB9 (w : World) : (fun os => clsSeenW qv loV (S1 w os)) = fun _ => clsGoodW qv loV := by
  kernel_rfl
theorem lookC (w : World) : (fun os => (Hook.obs hkK) (S1 w os)) = fun _ => Hook.val hkK w := by
  kernel_rfl
theorem sizeL (w : World) : ((heap0 w.params).isNs mainGlobals && (#[] : Array GenState).size == 0, (heap0 w.params).objs.size, (heap0 w.params).nsMap mainGlobals "__annotations__") = (true, 28, ann6) := by
  kernel_rfl
end
section
open PySem PySem.W PyProof.Rows
set_option maxRecDepth 1000000
set_option maxHeartbeats 4000000
theorem seenB (w : World) (os : OsState) : openSeen qv loV (importedModules pw.main.body) XtV true (S1 w os) = openGood qv loV := by
  have b3 : ((S1 w os).heap.keysOk (looseW qv loV) ((recsOf qv).map (·.name)) ((litsOf qv).map (·.1)) ((clssOf qv (looseW qv loV)).map (·.name)) && (S1 w os).heap.accountedOkI (importedModules pw.main.body) && (S1 w os).heap.isNs mainGlobals && (S1 w os).heap.isNs builtinsNs && tablesOk qv (S1 w os).heap && XtV (S1 w os) && (S1 w os).gens.size == 0) = true := by
    have h1 := congrFun (lB3a w) os
    have h2 := congrFun (lB3b w) os
    have h3 := congrFun (lB3d w) os
    have h4 := congrFun (lB3c w) os
    simp only [Bool.and_eq_true] at h1 h2 h3 h4 ⊢
    exact ⟨⟨⟨⟨⟨⟨h1, h2⟩, h3.1.1⟩, h3.1.2⟩, h3.2⟩, h4.1⟩, h4.2⟩
  unfold openSeen openGood
  exact Prod.ext (congrFun (lB1 w) os) (Prod.ext (congrFun (lB2 w) os) (Prod.ext b3 (Prod.ext (congrFun (lB4 w) os) (Prod.ext (congrFun (lB5 w) os) (Prod.ext (congrFun (lB6 w) os) (Prod.ext (congrFun (lB7 w) os) (Prod.ext (congrFun (lB8 w) os) (congrFun (lB9 w) os))))))))
theorem leftL : LeftO pw qv loV XtV hkK.obs hkK.val 20000 :=
  LeftO.of_pieces (H₀ := heap0) (H₁ := H1) (gs₀ := #[]) (gs₁ := #[]) (d₀ := {}) (d₁ := {}) (k₀ := 276) (k₁ := 2612) (m₀ := 28) (ann := ann6) (M := 12 + (1 + (131 + (1260 + (124 + (1010 + (30 + (12525 + (270 + 2)))))))))
    (open_cut imp_end (by decide) imp_fence) sizeL top_run (by decide)
    (fun w => funext fun os => Prod.ext (congrFun (lookA w) os) (Prod.ext (seenB w os) (congrFun (lookC w) os)))
end
section
open PySem PySem.W PyProof.Rows
set_option maxRecDepth 1000000
set_option maxHeartbeats 8000000
theorem said_law : OpenLaw.wellSaid PySem.Challenge.rw_rx0107_01 = true := by
  unfold OpenLaw.wellSaid OpenRow.wellSaid OpenRow.partSaid looksOpen
  repeat' (with_reducible refine look_both ?_ ?_)
  all_goals decide +kernel
theorem cw_try : PySem.Challenge.rw_rx0107_01.Holds := by
  w_on
  refine holds_law said_law fun said => ?_
  refine holds_open (q := qv) (loose := loV) (Xt := XtV) (XP := XL qv []) (Yf := hkK.obs) (Ya := hkK.val) (YP := hkK.says) (N := 20000) (d := { name := Str.ofString "law", params := ar23, body := bd23, scope := sc23, pos := po25 }) (kwd := []) leftL (Hook.of hkK) (Hook.keeps hkK) (fun s e => xl_of s (Bool.and_eq_true_iff.mp e).1) XL.keeps ?a ?b ?c (fun s e => recFacts_of (Bool.and_eq_true_iff.mp e).2) ?d ?e ?f ⟨rfl, rfl, rfl, rfl, rfl, ?g⟩ ?hw ?hc
  case a => kernel_rfl
  case b => kernel_rfl
  case c => kernel_rfl
  case d => kernel_rfl
  case e => first | assumption | decide +kernel
  case f => decide +kernel
  case g => decide +kernel
  case hw => w_witness2
  w_strict (
    k_fill
    intro w s₀ s₁ mg mb G Y fa o pm cd doc dV kV ho hd hcd hD hmg hg args vals as hpre hlay hrd hwl hlo
    have KX := km_in_of Y
    have hT8 := km_tabs_of Y
    have hT9 : TabsAt [(61, 57)] s₁.heap := List.forall_mem_cons.mpr ⟨⟨codeHd_of_K (c := 61) (P := 57) KX (by kernel_rfl), hT8 57 (.head _)⟩, fun _ h => nomatch h⟩
    have X := (Ground.X G).1
    have V := (Ground.X G).2
    refine Ground.open G ?_
    intro T B D TE TW
    try (refine guard_noD D (by decide +kernel) ?_; clear D)
    clear hmg
    wrow_args hpre hlay hrd hwl hlo
    all_goals (
      first | refine callC_kw (enter_call ?_) | refine enter_call ?_
      w_top on
      refine kn_post hT9 (fun _ _ => rfl) ?_
      w_call any ho hd hcd hD T F
      (rename News _ _ _ _ => N0
       rename Heap.IsList _ _ _ => hL
       rename IntsAre _ _ => hI
       rename ¬ (_ < _) => hc
       refine law_walk w (ghost_top hT9 T) (ghost_K hT9 KX (by kernel_rfl)) (ghost_below hT9) (ghost_fr hT9 F) (ghost_news hT9 F N0) (ghost_list hT9 hL) hI (by omega) (Nat.succ_pos _) ?_
       intro h' tk' hkeep hgr
       refine ⟨⟨.inl ⟨_, .bool true, [], rfl, raisesW_false ?_, .bool true, ?_, unshared_nil⟩, hkeep, rfl, hg⟩, hgr, trivial⟩
       · wrow_none_raised
       · wrow_post)))
end
end Mine
theorem PySem.Challenge.cw_rx0107_01_holds : PySem.Challenge.rw_rx0107_01.Holds :=
  Mine.cw_try
