import PyProof.Rows.All
import Wide.All
import OpenK.AllK
import Wide.FinOn
import PySem.Challenge.RW_sw0018_01
open PySem PySem.W PyProof.Rows PySem.Spec PySem.Calls
set_option Elab.async false
set_option linter.unusedVariables false
set_option linter.unusedSimpArgs false
set_option maxRecDepth 100000
set_option compiler.extract_closed false
namespace Mine

section
section
open Builtin Builtin.Str StrLaws
theorem occ_skip (s sub : Str) (hi limit : Nat) : ∀ (l : List Nat) (st : Array Nat × Nat), (∀ i ∈ l, ¬ (((st.1.size < limit ∧ st.2 ≤ i) ∧ i + sub.length ≤ hi) ∧ subAt s sub i = true)) →
    (forIn l st (occBody s sub hi limit) : Id _) = st
  | [], st, _ => rfl
  | a :: l, st, h => by
    rw [List.forIn_cons]
    unfold occBody
    rw [if_neg (h a (.head _))]
    exact occ_skip s sub hi limit l st fun i hi' => h i (.tail _ hi')
theorem occ_app (s sub : Str) (hi limit : Nat) (l₂ : List Nat) : ∀ (l : List Nat) (st : Array Nat × Nat),
    (forIn (l ++ l₂) st (occBody s sub hi limit) : Id _) = forIn l₂ (forIn l st (occBody s sub hi limit) : Id _).run (occBody s sub hi limit)
  | [], st => rfl
  | a :: l, st => by
    rw [List.cons_append, List.forIn_cons, List.forIn_cons]
    unfold occBody
    split
    · exact occ_app s sub hi limit l₂ l _
    · exact occ_app s sub hi limit l₂ l _
theorem occ_one (s sub : Str) (hi limit a : Nat) (st : Array Nat × Nat) (l : List Nat) (h : ((st.1.size < limit ∧ st.2 ≤ a) ∧ a + sub.length ≤ hi) ∧ subAt s sub a = true) :
    (forIn (a :: l) st (occBody s sub hi limit) : Id _) = forIn l (st.1.push a, a + sub.length) (occBody s sub hi limit) := by
  rw [List.forIn_cons]
  unfold occBody
  rw [if_pos h]
  rfl
theorem occ_empty (x y : Str) (hy : y.cps = #[]) (lo hi : Nat) (h : lo ≤ hi) : occurrences x y lo hi 1 = [lo] := by
  rw [occ_eq]
  have e : hi + 1 - lo = (hi - lo) + 1 := by omega
  have hl : y.length = 0 := by simp [Str.length, hy]
  have hs : subAt x y lo = true := by rw [subAt_eq, hl, hy]; simp
  rw [e, List.range'_succ, occ_one x y hi 1 lo (#[], lo) _ ⟨⟨⟨by simp, Nat.le_refl _⟩, by omega⟩, hs⟩, occ_skip]
  · rfl
  · intro i _ hc
    exact absurd hc.1.1.1 (by simp)

theorem dots_cps : ("..." : Str).cps = #[46, 46, 46] := by decide +kernel
theorem dots_len : ("..." : Str).length = 3 := by decide +kernel
theorem sub_dots (x : List Nat) (hd : 46 ∉ x) (i : Nat) (hi : i < x.length) : subAt ((⟨x.toArray⟩ : Str) ++ "...") "..." i = false := by
  rw [subAt_eq, dots_len, dots_cps]
  have e : ((⟨x.toArray⟩ : Str) ++ ("..." : Str)).cps.toList = x ++ [46, 46, 46] := by
    rw [Str.cps_append, dots_cps]; simp
  rw [e]
  have : (List.drop i (x ++ [46, 46, 46])).take 3 ≠ [46, 46, 46] := by
    intro q
    have h1 : ((List.drop i (x ++ [46, 46, 46])).take 3)[0]? = some 46 := by rw [q]; rfl
    rw [List.getElem?_take_of_lt (by omega), List.getElem?_drop, List.getElem?_append_left (by omega)] at h1
    exact hd (List.mem_of_getElem? h1)
  simpa using this
theorem sub_dots' (x : List Nat) : subAt ((⟨x.toArray⟩ : Str) ++ "...") "..." x.length = true := by
  rw [subAt_eq, dots_len, dots_cps]
  have e : ((⟨x.toArray⟩ : Str) ++ ("..." : Str)).cps.toList = x ++ [46, 46, 46] := by
    rw [Str.cps_append, dots_cps]; simp
  rw [e]
  simp
theorem dots_ne : (("..." : Str).length == 0) = false := by decide +kernel
theorem len_dots (x : List Nat) : ((⟨x.toArray⟩ : Str) ++ ("..." : Str)).length = x.length + 3 := by
  rw [Str.length_append, dots_len]; simp [Str.length]
theorem occ_dots (x : List Nat) (hd : 46 ∉ x) (limit : Nat) (hl : 1 ≤ limit) :
    occurrences ((⟨x.toArray⟩ : Str) ++ "...") "..." 0 ((⟨x.toArray⟩ : Str) ++ ("..." : Str)).length limit = [x.length] := by
  rw [occ_eq, len_dots]
  have e : x.length + 3 + 1 - 0 = x.length + (1 + 3) := by omega
  have e1 := occ_skip ((⟨x.toArray⟩ : Str) ++ "...") "..." (x.length + 3) limit (List.range' 0 x.length) (#[], 0) (by
    intro i hi hc
    rw [List.mem_range'_1] at hi
    rw [sub_dots x hd i (by omega)] at hc
    exact Bool.false_ne_true hc.2)
  rw [e, ← List.range'_append, occ_app, e1]
  have e2 : List.range' (0 + 1 * x.length) (1 + 3) = x.length :: List.range' (x.length + 1) 3 := by
    rw [show (1 + 3 : Nat) = 3 + 1 from rfl, List.range'_succ]; simp
  rw [e2]
  show (forIn (x.length :: List.range' (x.length + 1) 3) ((#[] : Array Nat), 0) (occBody ((⟨x.toArray⟩ : Str) ++ "...") "..." (x.length + 3) limit) : Id _).fst.toList = _
  rw [occ_one _ _ _ limit x.length (#[], 0) _ ⟨⟨⟨by simp; omega, Nat.zero_le _⟩, by rw [dots_len]; omega⟩, sub_dots' x⟩, occ_skip]
  · rfl
  · intro i hi hc
    rw [List.mem_range'_1] at hi
    have := hc.1.2
    rw [dots_len] at this
    omega
theorem split_dots (x : List Nat) (hd : 46 ∉ x) : Txt.split ((⟨x.toArray⟩ : Str) ++ "...") "..." = [(⟨x.toArray⟩ : Str), ("" : Str)] := by
  unfold Txt.split
  have h1 : (decide (((⟨x.toArray⟩ : Str) ++ ("..." : Str)).length < ("..." : Str).length) || decide (PySem.Builtin.Str.strKind ((⟨x.toArray⟩ : Str) ++ "...") < PySem.Builtin.Str.strKind "...")) = false := by
    rw [len_dots, dots_len]
    have hk : PySem.Builtin.Str.strKind "..." = 1 := by decide +kernel
    have : 1 ≤ PySem.Builtin.Str.strKind ((⟨x.toArray⟩ : Str) ++ "...") := by unfold PySem.Builtin.Str.strKind; split <;> (try split) <;> omega
    rw [hk]
    simp; omega
  rw [h1, occ_dots x hd _ (by omega)]
  simp only [Bool.false_eq_true, if_false, List.isEmpty_cons]
  unfold partsBetween
  simp only [List.map_cons, List.map_nil, List.cons_append, List.nil_append, List.zip_cons_cons, List.zip_nil_right, len_dots, dots_len]
  have e : ((⟨x.toArray⟩ : Str) ++ ("..." : Str)).cps.toList = x ++ [46, 46, 46] := by
    rw [Str.cps_append, dots_cps]; simp
  refine congr (congrArg List.cons ?_) (congrArg (fun z => [z]) ?_)
  · refine Str.ext' ?_
    rw [show (strSub ((⟨x.toArray⟩ : Str) ++ "...") 0 x.length).cps = (strSub ((⟨x.toArray⟩ : Str) ++ "...") 0 x.length).cps.toList.toArray by simp, strSub_toList, e]
    simp
  · refine Str.ext' ?_
    rw [show (strSub ((⟨x.toArray⟩ : Str) ++ "...") (x.length + 3) (x.length + 3)).cps = (strSub ((⟨x.toArray⟩ : Str) ++ "...") (x.length + 3) (x.length + 3)).cps.toList.toArray by simp, strSub_toList, e]
    simp
    rfl
end
noncomputable abbrev sx (x : List Nat) : Str := ⟨x.toArray⟩
theorem sx_len (x : List Nat) : (sx x).length = x.length := by simp [Str.length]
theorem starts_eq (x y : List Nat) : Txt.startswith (sx y) (sx x) = decide (y.take x.length = x) := by
  unfold Txt.startswith
  rw [StrLaws.subAt_eq, sx_len, sx_len]
  by_cases h : y.take x.length = x
  · have hl : x.length ≤ y.length := by
      have := congrArg List.length h
      rw [List.length_take] at this
      omega
    have : ((y.drop 0).take x.length == x) = true := by simpa using h
    simp [hl, h]
  · simp [h]
open Builtin Builtin.Str StrLaws
theorem sx_cps (x : List Nat) : (sx x).cps.toList = x := by simp
theorem eq_sx {a : Str} {x : List Nat} (h : a.cps.toList = x) : a = sx x := by
  refine Str.ext' ?_
  rw [← h]
theorem slice_ns (x : List Nat) (j : Int) (h : 0 ≤ j) : Txt.slice (sx x) none (some j) = sx (x.take j.toNat) := by
  by_cases hj : j ≤ x.length
  · have := eq_of_beq (slice_closes_toL (x := sx x) h (by rw [sx_len]; exact hj))
    rw [this]
    try simp
  · rw [slice_to_beyond (by rw [sx_len]; omega), eq_of_beq (slice_closes_toL (x := sx x) (j := (sx x).length) (by omega) (Int.le_refl _))]
    simp only [sx_len]
    rw [List.take_of_length_le (by simp), List.take_of_length_le (by omega)]
    simp
theorem slice_sn (x : List Nat) (i : Int) (h : 0 ≤ i) (hi : i ≤ x.length) : Txt.slice (sx x) (some i) none = sx (x.drop i.toNat) := by
  rw [eq_of_beq (slice_closes_fromL (x := sx x) (b := (sx x).length) h (by rw [sx_len]; exact hi) rfl)]
  simp only [sx_len]
  rw [List.take_of_length_le (by simp; omega)]
theorem slice_ss (x : List Nat) (i j : Int) (h : 0 ≤ i) (hi : i ≤ j) (hj : j ≤ x.length) : Txt.slice (sx x) (some i) (some j) = sx ((x.drop i.toNat).take (j - i).toNat) := by
  rw [eq_of_beq (slice_closesL (x := sx x) h hi (by rw [sx_len]; exact hj))]
theorem slice_1m1 (x : List Nat) (h : 2 ≤ x.length) : Txt.slice (sx x) (some 1) (some (-1)) = sx ((x.drop 1).take (x.length - 2)) := by
  have e : strSliceIndices (some 1) (some (-1)) 1 (sx x).length = strSliceIndices (some 1) (some ((x.length : Int) - 1)) 1 (sx x).length := by
    rw [sx_len]
    have a1 : ¬ ((x.length : Int) - 1 < 0) := by omega
    have e1 : max (0 : Int) (min ((-1 : Int) + (x.length : Int)) (x.length : Int)) = (x.length : Int) - 1 := by omega
    have e2 : max (0 : Int) (min ((x.length : Int) - 1) (x.length : Int)) = (x.length : Int) - 1 := by omega
    simp [strSliceIndices, a1, e1, e2]
  have e' : Txt.slice (sx x) (some 1) (some (-1)) = Txt.slice (sx x) (some 1) (some ((x.length : Int) - 1)) := by
    show StrLaws.sliceText (sx x) _ _ = StrLaws.sliceText (sx x) _ _
    unfold StrLaws.sliceText
    rw [e]
  rw [e', slice_ss x 1 _ (by omega) (by omega) (by omega)]
  congr 3
  omega
theorem add_sx (x y : List Nat) : sx x ++ sx y = sx (x ++ y) := by
  refine Str.ext' ?_
  rw [Str.cps_append]; simp
theorem eq_sx_iff (x y : List Nat) : (sx x == sx y) = decide (x = y) := by
  by_cases h : x = y
  · subst h; simp
  · have : sx x ≠ sx y := fun e => h (by have := congrArg (fun z : Str => z.cps.toList) e; simpa using this)
    simp [h, this]
end
section
noncomputable def pickS (l : List Stmt) : List Stmt := match l with
  | [_, a1, a2, a3, a4, a5, a6, a7, a8, _, b0, b1, _, b3, _, b5, b6, b7, b8, b9, c0] => [a1, a2, a3, a4, a5, a6, a7, a8, b0, b1, b3, b5, b6, b7, b8, b9, c0]
  | _ => []
noncomputable def hd.body : List Stmt := by
  refine' (?f : (y : List Stmt) → pickS PySem.Challenge.pw_sw0018_01.main.body = y → List Stmt) _ ?h
  case f => exact fun y _ => y
  case h => conv => { lhs; whnf }
noncomputable def nS : List Stmt → Nat → Stmt
  | [], _ => .Pass ⟨0, 0, 0, 0⟩
  | a :: _, 0 => a
  | _ :: l, n+1 => nS l n
noncomputable def cM (s : Stmt) (i : Nat) : Stmt := match s with
  | .ClassDef _ _ _ [a, b, c, d] .. => (match i with | 0 => a | 1 => b | 2 => c | _ => d)
  | _ => s
noncomputable def fnO (s : Stmt) (q : Str) (pm cd : Value) : Obj := match s with
  | .FunctionDef n p b _ _ _ sc .. => { cls := .type "function", data := .func { name := n, qualname := q, params := p, body := .stmts b, scope := sc, globals := (3:Nat), closure := [], defaults := .none, kwdefaults := .none, pyModule := pm, code := cd } }
  | _ => { cls := .none, data := .plain }
noncomputable def hd.o21 : Obj := by
  refine' (?f : (y : Obj) → fnO (nS hd.body 0) "add" (.str "cpy313.operator" (187:Nat)) (.ref (20:Nat)) = y → Obj) _ ?h
  case f => exact fun y _ => y
  case h => conv => { lhs; whnf }
noncomputable def hd.o28 : Obj := by
  refine' (?f : (y : Obj) → fnO (nS hd.body 1) "floordiv" (.str "cpy313.operator" (187:Nat)) (.ref (27:Nat)) = y → Obj) _ ?h
  case f => exact fun y _ => y
  case h => conv => { lhs; whnf }
noncomputable def hd.o35 : Obj := by
  refine' (?f : (y : Obj) → fnO (nS hd.body 2) "lshift" (.str "cpy313.operator" (187:Nat)) (.ref (34:Nat)) = y → Obj) _ ?h
  case f => exact fun y _ => y
  case h => conv => { lhs; whnf }
noncomputable def hd.o42 : Obj := by
  refine' (?f : (y : Obj) → fnO (nS hd.body 3) "mod" (.str "cpy313.operator" (187:Nat)) (.ref (41:Nat)) = y → Obj) _ ?h
  case f => exact fun y _ => y
  case h => conv => { lhs; whnf }
noncomputable def hd.o49 : Obj := by
  refine' (?f : (y : Obj) → fnO (nS hd.body 4) "mul" (.str "cpy313.operator" (187:Nat)) (.ref (48:Nat)) = y → Obj) _ ?h
  case f => exact fun y _ => y
  case h => conv => { lhs; whnf }
noncomputable def hd.o56 : Obj := by
  refine' (?f : (y : Obj) → fnO (nS hd.body 5) "or_" (.str "cpy313.operator" (187:Nat)) (.ref (55:Nat)) = y → Obj) _ ?h
  case f => exact fun y _ => y
  case h => conv => { lhs; whnf }
noncomputable def hd.o63 : Obj := by
  refine' (?f : (y : Obj) → fnO (nS hd.body 6) "sub" (.str "cpy313.operator" (187:Nat)) (.ref (62:Nat)) = y → Obj) _ ?h
  case f => exact fun y _ => y
  case h => conv => { lhs; whnf }
noncomputable def hd.o70 : Obj := by
  refine' (?f : (y : Obj) → fnO (nS hd.body 7) "contains" (.str "cpy313.operator" (187:Nat)) (.ref (69:Nat)) = y → Obj) _ ?h
  case f => exact fun y _ => y
  case h => conv => { lhs; whnf }
noncomputable def hd.o77 : Obj := by
  refine' (?f : (y : Obj) → fnO (nS hd.body 9) "_ellipsis_match" (.str "cpy313.doctest" (253:Nat)) (.ref (76:Nat)) = y → Obj) _ ?h
  case f => exact fun y _ => y
  case h => conv => { lhs; whnf }
noncomputable def hd.o91 : Obj := by
  refine' (?f : (y : Obj) → fnO (cM (nS hd.body 10) 0) "_netrclex.__init__" (.str "cpy313.netrc" (269:Nat)) (.ref (90:Nat)) = y → Obj) _ ?h
  case f => exact fun y _ => y
  case h => conv => { lhs; whnf }
noncomputable def hd.o98 : Obj := by
  refine' (?f : (y : Obj) → fnO (cM (nS hd.body 10) 1) "_netrclex._read_char" (.str "cpy313.netrc" (269:Nat)) (.ref (97:Nat)) = y → Obj) _ ?h
  case f => exact fun y _ => y
  case h => conv => { lhs; whnf }
noncomputable def hd.o105 : Obj := by
  refine' (?f : (y : Obj) → fnO (cM (nS hd.body 10) 2) "_netrclex.get_token" (.str "cpy313.netrc" (269:Nat)) (.ref (104:Nat)) = y → Obj) _ ?h
  case f => exact fun y _ => y
  case h => conv => { lhs; whnf }
noncomputable def hd.o112 : Obj := by
  refine' (?f : (y : Obj) → fnO (cM (nS hd.body 10) 3) "_netrclex.push_token" (.str "cpy313.netrc" (269:Nat)) (.ref (111:Nat)) = y → Obj) _ ?h
  case f => exact fun y _ => y
  case h => conv => { lhs; whnf }
noncomputable def hd.o126 : Obj := by
  refine' (?f : (y : Obj) → fnO (nS hd.body 11) "_law_lexer" (.str "law_sw0018_01" (329:Nat)) (.ref (125:Nat)) = y → Obj) _ ?h
  case f => exact fun y _ => y
  case h => conv => { lhs; whnf }
noncomputable def hd.o133 : Obj := by
  refine' (?f : (y : Obj) → fnO (nS hd.body 12) "_law_pieces" (.str "law_sw0018_01" (329:Nat)) (.ref (132:Nat)) = y → Obj) _ ?h
  case f => exact fun y _ => y
  case h => conv => { lhs; whnf }
noncomputable def hd.o138 : Obj := by
  refine' (?f : (y : Obj) → fnO (nS hd.body 13) "_law_shifts" (.str "law_sw0018_01" (329:Nat)) (.ref (137:Nat)) = y → Obj) _ ?h
  case f => exact fun y _ => y
  case h => conv => { lhs; whnf }
noncomputable def hd.o143 : Obj := by
  refine' (?f : (y : Obj) → fnO (nS hd.body 14) "_law_twin" (.str "law_sw0018_01" (329:Nat)) (.ref (142:Nat)) = y → Obj) _ ?h
  case f => exact fun y _ => y
  case h => conv => { lhs; whnf }
noncomputable def hd.o150 : Obj := by
  refine' (?f : (y : Obj) → fnO (nS hd.body 15) "_law_told" (.str "law_sw0018_01" (329:Nat)) (.ref (149:Nat)) = y → Obj) _ ?h
  case f => exact fun y _ => y
  case h => conv => { lhs; whnf }
noncomputable def hd.o155 : Obj := by
  refine' (?f : (y : Obj) → fnO (nS hd.body 16) "law" (.str "law_sw0018_01" (329:Nat)) (.ref (154:Nat)) = y → Obj) _ ?h
  case f => exact fun y _ => y
  case h => conv => { lhs; whnf }
noncomputable def hd.K0 : Params → Frag := fun P =>
   (nat_lit 2, { cls := .none, data := .dict #[] }) ::
   (nat_lit 3, { cls := .type "dict", data := .dict #[{ hash := PyData.keyHash P "__name__", key := .str "__name__" (165:Nat), val := .str "law_sw0018_01" (329:Nat) }, { hash := PyData.keyHash P "__doc__", key := .str "__doc__" (166:Nat), val := .none }, { hash := PyData.keyHash P "__package__", key := .str "__package__" (167:Nat), val := .none }, { hash := PyData.keyHash P "__loader__", key := .str "__loader__" (168:Nat), val := .builtin "__main__.__loader__#opaque" }, { hash := PyData.keyHash P "__spec__", key := .str "__spec__" (169:Nat), val := .none }, { hash := PyData.keyHash P "__annotations__", key := .str "__annotations__" (170:Nat), val := .ref (6:Nat) }, { hash := PyData.keyHash P "__builtins__", key := .str "__builtins__" (171:Nat), val := .ref (4:Nat) }, { hash := PyData.keyHash P "__file__", key := .str "__file__" (173:Nat), val := .str "/claim/cut.py" (172:Nat) }, { hash := PyData.keyHash P "__cached__", key := .str "__cached__" (174:Nat), val := .none }, { hash := PyData.keyHash P "add", key := .str "add" (196:Nat), val := .ref (21:Nat) }, { hash := PyData.keyHash P "floordiv", key := .str "floordiv" (204:Nat), val := .ref (28:Nat) }, { hash := PyData.keyHash P "lshift", key := .str "lshift" (212:Nat), val := .ref (35:Nat) }, { hash := PyData.keyHash P "mod", key := .str "mod" (220:Nat), val := .ref (42:Nat) }, { hash := PyData.keyHash P "mul", key := .str "mul" (228:Nat), val := .ref (49:Nat) }, { hash := PyData.keyHash P "or_", key := .str "or_" (236:Nat), val := .ref (56:Nat) }, { hash := PyData.keyHash P "sub", key := .str "sub" (244:Nat), val := .ref (63:Nat) }, { hash := PyData.keyHash P "contains", key := .str "contains" (252:Nat), val := .ref (70:Nat) }, { hash := PyData.keyHash P "ELLIPSIS_MARKER", key := .str "ELLIPSIS_MARKER" (256:Nat), val := .str "..." (255:Nat) }, { hash := PyData.keyHash P "_ellipsis_match", key := .str "_ellipsis_match" (268:Nat), val := .ref (77:Nat) }, { hash := PyData.keyHash P "_netrclex", key := .str "_netrclex" (328:Nat), val := .ref (115:Nat) }, { hash := PyData.keyHash P "_law_lexer", key := .str "_law_lexer" (339:Nat), val := .ref (126:Nat) }, { hash := PyData.keyHash P "_law_pieces", key := .str "_law_pieces" (352:Nat), val := .ref (133:Nat) }, { hash := PyData.keyHash P "_law_shifts", key := .str "_law_shifts" (358:Nat), val := .ref (138:Nat) }, { hash := PyData.keyHash P "_law_twin", key := .str "_law_twin" (364:Nat), val := .ref (143:Nat) }, { hash := PyData.keyHash P "_law_told", key := .str "_law_told" (374:Nat), val := .ref (150:Nat) }, { hash := PyData.keyHash P "law", key := .str "law" (380:Nat), val := .ref (155:Nat) }] 26 }) ::
   (nat_lit 15, { cls := .type "tuple", data := .seq #[] }) ::
   (nat_lit 17, { cls := .type "tuple", data := .seq #[.str "a" (192:Nat), .str "b" (193:Nat)] }) ::
   (nat_lit 18, { cls := .type "tuple", data := .seq #[] }) ::
   (nat_lit 20, { cls := .type "code", data := .fields #[.str "add" (189:Nat), .str "add" (190:Nat), .str "/claim/cut.py" (191:Nat), .int 2 (0:Nat), .int 2 (0:Nat), .int 0 (0:Nat), .int 0 (0:Nat), .int 3 (0:Nat), .ref (15:Nat), .bool true, .int 181 (0:Nat), .ref (16:Nat), .none, .ref (17:Nat), .ref (18:Nat), .ref (19:Nat), .int 194 (0:Nat), .int 2 (0:Nat), .str "/claim/cut.py" (195:Nat)] }) ::
   (nat_lit 21, hd.o21) ::
   (nat_lit 22, { cls := .type "tuple", data := .seq #[] }) ::
   (nat_lit 24, { cls := .type "tuple", data := .seq #[.str "a" (200:Nat), .str "b" (201:Nat)] }) ::
   (nat_lit 25, { cls := .type "tuple", data := .seq #[] }) ::
   (nat_lit 27, { cls := .type "code", data := .fields #[.str "floordiv" (197:Nat), .str "floordiv" (198:Nat), .str "/claim/cut.py" (199:Nat), .int 4 (0:Nat), .int 2 (0:Nat), .int 0 (0:Nat), .int 0 (0:Nat), .int 3 (0:Nat), .ref (22:Nat), .bool true, .int 181 (0:Nat), .ref (23:Nat), .none, .ref (24:Nat), .ref (25:Nat), .ref (26:Nat), .int 202 (0:Nat), .int 4 (0:Nat), .str "/claim/cut.py" (203:Nat)] }) ::
   (nat_lit 28, hd.o28) ::
   (nat_lit 29, { cls := .type "tuple", data := .seq #[] }) ::
   (nat_lit 31, { cls := .type "tuple", data := .seq #[.str "a" (208:Nat), .str "b" (209:Nat)] }) ::
   (nat_lit 32, { cls := .type "tuple", data := .seq #[] }) ::
   (nat_lit 34, { cls := .type "code", data := .fields #[.str "lshift" (205:Nat), .str "lshift" (206:Nat), .str "/claim/cut.py" (207:Nat), .int 6 (0:Nat), .int 2 (0:Nat), .int 0 (0:Nat), .int 0 (0:Nat), .int 3 (0:Nat), .ref (29:Nat), .bool true, .int 181 (0:Nat), .ref (30:Nat), .none, .ref (31:Nat), .ref (32:Nat), .ref (33:Nat), .int 210 (0:Nat), .int 6 (0:Nat), .str "/claim/cut.py" (211:Nat)] }) ::
   (nat_lit 35, hd.o35) ::
   (nat_lit 36, { cls := .type "tuple", data := .seq #[] }) ::
   (nat_lit 38, { cls := .type "tuple", data := .seq #[.str "a" (216:Nat), .str "b" (217:Nat)] }) ::
   (nat_lit 39, { cls := .type "tuple", data := .seq #[] }) ::
   (nat_lit 41, { cls := .type "code", data := .fields #[.str "mod" (213:Nat), .str "mod" (214:Nat), .str "/claim/cut.py" (215:Nat), .int 8 (0:Nat), .int 2 (0:Nat), .int 0 (0:Nat), .int 0 (0:Nat), .int 3 (0:Nat), .ref (36:Nat), .bool true, .int 181 (0:Nat), .ref (37:Nat), .none, .ref (38:Nat), .ref (39:Nat), .ref (40:Nat), .int 218 (0:Nat), .int 8 (0:Nat), .str "/claim/cut.py" (219:Nat)] }) ::
   (nat_lit 42, hd.o42) ::
   (nat_lit 43, { cls := .type "tuple", data := .seq #[] }) ::
   (nat_lit 45, { cls := .type "tuple", data := .seq #[.str "a" (224:Nat), .str "b" (225:Nat)] }) ::
   (nat_lit 46, { cls := .type "tuple", data := .seq #[] }) ::
   (nat_lit 48, { cls := .type "code", data := .fields #[.str "mul" (221:Nat), .str "mul" (222:Nat), .str "/claim/cut.py" (223:Nat), .int 10 (0:Nat), .int 2 (0:Nat), .int 0 (0:Nat), .int 0 (0:Nat), .int 3 (0:Nat), .ref (43:Nat), .bool true, .int 181 (0:Nat), .ref (44:Nat), .none, .ref (45:Nat), .ref (46:Nat), .ref (47:Nat), .int 226 (0:Nat), .int 10 (0:Nat), .str "/claim/cut.py" (227:Nat)] }) ::
   (nat_lit 49, hd.o49) ::
   (nat_lit 50, { cls := .type "tuple", data := .seq #[] }) ::
   (nat_lit 52, { cls := .type "tuple", data := .seq #[.str "a" (232:Nat), .str "b" (233:Nat)] }) ::
   (nat_lit 53, { cls := .type "tuple", data := .seq #[] }) ::
   (nat_lit 55, { cls := .type "code", data := .fields #[.str "or_" (229:Nat), .str "or_" (230:Nat), .str "/claim/cut.py" (231:Nat), .int 12 (0:Nat), .int 2 (0:Nat), .int 0 (0:Nat), .int 0 (0:Nat), .int 3 (0:Nat), .ref (50:Nat), .bool true, .int 181 (0:Nat), .ref (51:Nat), .none, .ref (52:Nat), .ref (53:Nat), .ref (54:Nat), .int 234 (0:Nat), .int 12 (0:Nat), .str "/claim/cut.py" (235:Nat)] }) ::
   (nat_lit 56, hd.o56) ::
   (nat_lit 57, { cls := .type "tuple", data := .seq #[] }) ::
   (nat_lit 59, { cls := .type "tuple", data := .seq #[.str "a" (240:Nat), .str "b" (241:Nat)] }) ::
   (nat_lit 60, { cls := .type "tuple", data := .seq #[] }) ::
   (nat_lit 62, { cls := .type "code", data := .fields #[.str "sub" (237:Nat), .str "sub" (238:Nat), .str "/claim/cut.py" (239:Nat), .int 14 (0:Nat), .int 2 (0:Nat), .int 0 (0:Nat), .int 0 (0:Nat), .int 3 (0:Nat), .ref (57:Nat), .bool true, .int 181 (0:Nat), .ref (58:Nat), .none, .ref (59:Nat), .ref (60:Nat), .ref (61:Nat), .int 242 (0:Nat), .int 14 (0:Nat), .str "/claim/cut.py" (243:Nat)] }) ::
   (nat_lit 63, hd.o63) ::
   (nat_lit 64, { cls := .type "tuple", data := .seq #[] }) ::
   (nat_lit 66, { cls := .type "tuple", data := .seq #[.str "a" (248:Nat), .str "b" (249:Nat)] }) ::
   (nat_lit 67, { cls := .type "tuple", data := .seq #[] }) ::
   (nat_lit 69, { cls := .type "code", data := .fields #[.str "contains" (245:Nat), .str "contains" (246:Nat), .str "/claim/cut.py" (247:Nat), .int 16 (0:Nat), .int 2 (0:Nat), .int 0 (0:Nat), .int 0 (0:Nat), .int 3 (0:Nat), .ref (64:Nat), .bool true, .int 181 (0:Nat), .ref (65:Nat), .none, .ref (66:Nat), .ref (67:Nat), .ref (68:Nat), .int 250 (0:Nat), .int 16 (0:Nat), .str "/claim/cut.py" (251:Nat)] }) ::
   (nat_lit 70, hd.o70) ::
   (nat_lit 71, { cls := .type "tuple", data := .seq #[] }) ::
   (nat_lit 73, { cls := .type "tuple", data := .seq #[.str "want" (260:Nat), .str "got" (261:Nat), .str "ws" (262:Nat), .str "startpos" (263:Nat), .str "endpos" (264:Nat), .str "w" (265:Nat)] }) ::
   (nat_lit 74, { cls := .type "tuple", data := .seq #[] }) ::
   (nat_lit 76, { cls := .type "code", data := .fields #[.str "_ellipsis_match" (257:Nat), .str "_ellipsis_match" (258:Nat), .str "/claim/cut.py" (259:Nat), .int 20 (0:Nat), .int 2 (0:Nat), .int 0 (0:Nat), .int 0 (0:Nat), .int 3 (0:Nat), .ref (71:Nat), .bool true, .int 181 (0:Nat), .ref (72:Nat), .none, .ref (73:Nat), .ref (74:Nat), .ref (75:Nat), .int 266 (0:Nat), .int 20 (0:Nat), .str "/claim/cut.py" (267:Nat)] }) ::
   (nat_lit 77, hd.o77) ::
   (nat_lit 85, { cls := .type "tuple", data := .seq #[] }) ::
   (nat_lit 87, { cls := .type "tuple", data := .seq #[.str "self" (286:Nat), .str "fp" (287:Nat)] }) ::
   (nat_lit 88, { cls := .type "tuple", data := .seq #[] }) ::
   (nat_lit 90, { cls := .type "code", data := .fields #[.str "__init__" (283:Nat), .str "_netrclex.__init__" (284:Nat), .str "/claim/cut.py" (285:Nat), .int 51 (0:Nat), .int 2 (0:Nat), .int 0 (0:Nat), .int 0 (0:Nat), .int 3 (0:Nat), .ref (85:Nat), .bool true, .int 181 (0:Nat), .ref (86:Nat), .none, .ref (87:Nat), .ref (88:Nat), .ref (89:Nat), .int 288 (0:Nat), .int 51 (0:Nat), .str "/claim/cut.py" (289:Nat)] }) ::
   (nat_lit 91, hd.o91) ::
   (nat_lit 92, { cls := .type "tuple", data := .seq #[] }) ::
   (nat_lit 94, { cls := .type "tuple", data := .seq #[.str "self" (294:Nat), .str "ch" (295:Nat)] }) ::
   (nat_lit 95, { cls := .type "tuple", data := .seq #[] }) ::
   (nat_lit 97, { cls := .type "code", data := .fields #[.str "_read_char" (291:Nat), .str "_netrclex._read_char" (292:Nat), .str "/claim/cut.py" (293:Nat), .int 57 (0:Nat), .int 1 (0:Nat), .int 0 (0:Nat), .int 0 (0:Nat), .int 3 (0:Nat), .ref (92:Nat), .bool true, .int 181 (0:Nat), .ref (93:Nat), .none, .ref (94:Nat), .ref (95:Nat), .ref (96:Nat), .int 296 (0:Nat), .int 57 (0:Nat), .str "/claim/cut.py" (297:Nat)] }) ::
   (nat_lit 98, hd.o98) ::
   (nat_lit 99, { cls := .type "tuple", data := .seq #[] }) ::
   (nat_lit 101, { cls := .type "tuple", data := .seq #[.str "self" (302:Nat), .str "token" (303:Nat), .str "fiter" (304:Nat), .str "ch" (305:Nat)] }) ::
   (nat_lit 102, { cls := .type "tuple", data := .seq #[] }) ::
   (nat_lit 104, { cls := .type "code", data := .fields #[.str "get_token" (299:Nat), .str "_netrclex.get_token" (300:Nat), .str "/claim/cut.py" (301:Nat), .int 63 (0:Nat), .int 1 (0:Nat), .int 0 (0:Nat), .int 0 (0:Nat), .int 3 (0:Nat), .ref (99:Nat), .bool true, .int 181 (0:Nat), .ref (100:Nat), .none, .ref (101:Nat), .ref (102:Nat), .ref (103:Nat), .int 306 (0:Nat), .int 63 (0:Nat), .str "/claim/cut.py" (307:Nat)] }) ::
   (nat_lit 105, hd.o105) ::
   (nat_lit 106, { cls := .type "tuple", data := .seq #[] }) ::
   (nat_lit 108, { cls := .type "tuple", data := .seq #[.str "self" (312:Nat), .str "token" (313:Nat)] }) ::
   (nat_lit 109, { cls := .type "tuple", data := .seq #[] }) ::
   (nat_lit 111, { cls := .type "code", data := .fields #[.str "push_token" (309:Nat), .str "_netrclex.push_token" (310:Nat), .str "/claim/cut.py" (311:Nat), .int 90 (0:Nat), .int 2 (0:Nat), .int 0 (0:Nat), .int 0 (0:Nat), .int 3 (0:Nat), .ref (106:Nat), .bool true, .int 181 (0:Nat), .ref (107:Nat), .none, .ref (108:Nat), .ref (109:Nat), .ref (110:Nat), .int 314 (0:Nat), .int 90 (0:Nat), .str "/claim/cut.py" (315:Nat)] }) ::
   (nat_lit 112, hd.o112) ::
   (nat_lit 113, { cls := .type "tuple", data := .seq #[.str "instream" (317:Nat), .str "lineno" (318:Nat), .str "pushback" (319:Nat), .str "whitespace" (320:Nat)] }) ::
   (nat_lit 114, { cls := .type "dict", data := .dict #[{ hash := PyData.keyHash P "__module__", key := .str "__module__" (278:Nat), val := .str "cpy313.netrc" (269:Nat) }, { hash := PyData.keyHash P "__firstlineno__", key := .str "__firstlineno__" (282:Nat), val := .int 49 (281:Nat) }, { hash := PyData.keyHash P "__init__", key := .str "__init__" (290:Nat), val := .ref (91:Nat) }, { hash := PyData.keyHash P "_read_char", key := .str "_read_char" (298:Nat), val := .ref (98:Nat) }, { hash := PyData.keyHash P "get_token", key := .str "get_token" (308:Nat), val := .ref (105:Nat) }, { hash := PyData.keyHash P "push_token", key := .str "push_token" (316:Nat), val := .ref (112:Nat) }, { hash := PyData.keyHash P "__static_attributes__", key := .str "__static_attributes__" (321:Nat), val := .ref (113:Nat) }, { hash := PyData.keyHash P "__dict__", key := .str "__dict__" (323:Nat), val := .ref (116:Nat) }, { hash := PyData.keyHash P "__weakref__", key := .str "__weakref__" (325:Nat), val := .ref (117:Nat) }, { hash := PyData.keyHash P "__doc__", key := .str "__doc__" (326:Nat), val := .none }] 4 }) ::
   (nat_lit 115, { cls := .type "type", data := .cls { name := "_netrclex", bases := [.type "object"], mro := [.ref (115:Nat), .type "object"], ns := (114:Nat), qualname := "_netrclex" }, slots := #[none, none, some (.str "_netrclex" (271:Nat)), some (.str "_netrclex" (279:Nat)), some (.builtin "object.__new__"), some (.bool true)] }) ::
   (nat_lit 116, { cls := .type "getset_descriptor", data := .fields #[.str "__dict__" (322:Nat), .ref (115:Nat), .builtin "function.__dict__", .builtin "function.__dict__#set"] }) ::
   (nat_lit 117, { cls := .type "getset_descriptor", data := .fields #[.str "__weakref__" (324:Nat), .ref (115:Nat), .builtin "ExceptionGroup.__weakref__", .none] }) ::
   (nat_lit 120, { cls := .type "tuple", data := .seq #[] }) ::
   (nat_lit 122, { cls := .type "tuple", data := .seq #[.str "written" (334:Nat), .str "stream" (335:Nat)] }) ::
   (nat_lit 123, { cls := .type "tuple", data := .seq #[.str "left" (336:Nat)] }) ::
   (nat_lit 125, { cls := .type "code", data := .fields #[.str "_law_lexer" (331:Nat), .str "_law_lexer" (332:Nat), .str "/claim/cut.py" (333:Nat), .int 93 (0:Nat), .int 1 (0:Nat), .int 0 (0:Nat), .int 0 (0:Nat), .int 3 (0:Nat), .ref (120:Nat), .bool true, .int 181 (0:Nat), .ref (121:Nat), .none, .ref (122:Nat), .ref (123:Nat), .ref (124:Nat), .int 337 (0:Nat), .int 93 (0:Nat), .str "/claim/cut.py" (338:Nat)] }) ::
   (nat_lit 126, hd.o126) ::
   (nat_lit 127, { cls := .type "tuple", data := .seq #[] }) ::
   (nat_lit 129, { cls := .type "tuple", data := .seq #[.str "numbers" (343:Nat), .str "four" (344:Nat), .str "grown" (345:Nat), .str "made" (346:Nat), .str "x" (347:Nat), .str "part" (348:Nat), .str "more" (349:Nat)] }) ::
   (nat_lit 130, { cls := .type "tuple", data := .seq #[] }) ::
   (nat_lit 132, { cls := .type "code", data := .fields #[.str "_law_pieces" (340:Nat), .str "_law_pieces" (341:Nat), .str "/claim/cut.py" (342:Nat), .int 99 (0:Nat), .int 2 (0:Nat), .int 0 (0:Nat), .int 0 (0:Nat), .int 3 (0:Nat), .ref (127:Nat), .bool true, .int 181 (0:Nat), .ref (128:Nat), .none, .ref (129:Nat), .ref (130:Nat), .ref (131:Nat), .int 350 (0:Nat), .int 99 (0:Nat), .str "/claim/cut.py" (351:Nat)] }) ::
   (nat_lit 133, hd.o133) ::
   (nat_lit 134, { cls := .type "tuple", data := .seq #[] }) ::
   (nat_lit 137, { cls := .type "code", data := .fields #[.str "_law_shifts" (353:Nat), .str "_law_shifts" (354:Nat), .str "/claim/cut.py" (355:Nat), .int 115 (0:Nat), .int 1 (0:Nat), .int 0 (0:Nat), .int 0 (0:Nat), .int 3 (0:Nat), .ref (134:Nat), .bool true, .int 181 (0:Nat), .ref (135:Nat), .none, .none, .none, .ref (136:Nat), .int 356 (0:Nat), .int 115 (0:Nat), .str "/claim/cut.py" (357:Nat)] }) ::
   (nat_lit 138, hd.o138) ::
   (nat_lit 139, { cls := .type "tuple", data := .seq #[] }) ::
   (nat_lit 142, { cls := .type "code", data := .fields #[.str "_law_twin" (359:Nat), .str "_law_twin" (360:Nat), .str "/claim/cut.py" (361:Nat), .int 117 (0:Nat), .int 4 (0:Nat), .int 0 (0:Nat), .int 0 (0:Nat), .int 3 (0:Nat), .ref (139:Nat), .bool true, .int 181 (0:Nat), .ref (140:Nat), .none, .none, .none, .ref (141:Nat), .int 362 (0:Nat), .int 117 (0:Nat), .str "/claim/cut.py" (363:Nat)] }) ::
   (nat_lit 143, hd.o143) ::
   (nat_lit 144, { cls := .type "tuple", data := .seq #[] }) ::
   (nat_lit 146, { cls := .type "tuple", data := .seq #[.str "word" (368:Nat), .str "marks" (369:Nat), .str "p" (370:Nat), .str "said" (371:Nat)] }) ::
   (nat_lit 147, { cls := .type "tuple", data := .seq #[] }) ::
   (nat_lit 149, { cls := .type "code", data := .fields #[.str "_law_told" (365:Nat), .str "_law_told" (366:Nat), .str "/claim/cut.py" (367:Nat), .int 136 (0:Nat), .int 1 (0:Nat), .int 0 (0:Nat), .int 0 (0:Nat), .int 3 (0:Nat), .ref (144:Nat), .bool true, .int 181 (0:Nat), .ref (145:Nat), .none, .ref (146:Nat), .ref (147:Nat), .ref (148:Nat), .int 372 (0:Nat), .int 136 (0:Nat), .str "/claim/cut.py" (373:Nat)] }) ::
   (nat_lit 150, hd.o150) ::
   (nat_lit 151, { cls := .type "tuple", data := .seq #[] }) ::
   (nat_lit 154, { cls := .type "code", data := .fields #[.str "law" (375:Nat), .str "law" (376:Nat), .str "/claim/cut.py" (377:Nat), .int 145 (0:Nat), .int 1 (0:Nat), .int 0 (0:Nat), .int 0 (0:Nat), .int 3 (0:Nat), .ref (151:Nat), .bool true, .int 181 (0:Nat), .ref (152:Nat), .none, .none, .none, .ref (153:Nat), .int 378 (0:Nat), .int 145 (0:Nat), .str "/claim/cut.py" (379:Nat)] }) ::
   (nat_lit 155, hd.o155) :: []
noncomputable def hd.heap_39 : Params → Frag := by
  refine' (?f : (y : Params → Frag) → hd.K0 = y → (Params → Frag)) _ ?h
  case f => exact fun y _ => y
  case h => delta hd.K0 hd.o21 hd.o28 hd.o35 hd.o42 hd.o49 hd.o56 hd.o63 hd.o70 hd.o77 hd.o91 hd.o98 hd.o105 hd.o112 hd.o126 hd.o133 hd.o138 hd.o143 hd.o150 hd.o155
            exact rfl
noncomputable def hd.view_39 : Program := { PySem.Challenge.pw_sw0018_01 with main := { PySem.Challenge.pw_sw0018_01.main with body := hd.body } }
noncomputable def lastD (l : List Stmt) : Option DefRec := match l with
  | [_, _, _, _, _, _, _, _, _, _, _, _, _, _, _, _, .FunctionDef n p b _ _ _ sc _ _ ps] => some ⟨n, p, b, sc, ps⟩
  | _ => none
noncomputable def hd.dlaw : DefRec := by
  refine' (?f : (y : DefRec) → lastD hd.body = some y → DefRec) _ ?h
  case f => exact fun y _ => y
  case h => conv => { lhs; whnf }

open PySem.W.Fast in
theorem left_of {p q : Program} {loose : List Str} {Xt : Shared → Bool} {α : Type} {Yf : Shared → α} {Ya : World → α} {N : Nat} {g0 : Bool}
    (hb : ∀ w : World, (fencedOpening treeTable p w N).map (fun s => (s.heap, s.gens, s.drawn, s.toks)) = some (boot_heap w.params, Array.mk [], boot_drawn, boot_toks))
    (h : ∀ w : World, (fun os => (topFrom treeTable p w N ⟨boot_heap w.params, Array.mk [], boot_drawn, boot_toks, os⟩).map (fun s => (openSeen q loose (importedModules p.main.body) Xt g0 s, Yf s))) = fun _ => some (openGood q loose, Ya w)) :
    LeftO p q loose Xt Yf Ya N g0 := by
  intro w
  obtain ⟨s, hs, e⟩ := Option.map_eq_some_iff.mp (hb w)
  obtain ⟨hp, gn, dr, tk, os⟩ := s
  cases e
  unfold openEnds
  rw [hs]
  exact congrFun (h w) os
theorem hd.said0 : PySem.Challenge.rw_sw0018_01.row.wellSaid = true := (congrFun PySem.W.Fast.te17960256430627541270 _).trans (by kernel_rfl)
theorem hd.said : PySem.Challenge.rw_sw0018_01.wellSaid = true := by
  unfold OpenLaw.wellSaid
  rw [hd.said0, PySem.W.Fast.te8326940854005059898, PySem.W.Fast.te17119622794617984870, PySem.W.Fast.sDec_eq, PySem.W.Fast.named_eq]
  kernel_rfl
theorem hd.as_eq (P : Params) : (nat_lit 2 :: nat_lit 3 :: nat_lit 15 :: nat_lit 17 :: nat_lit 18 :: nat_lit 20 :: nat_lit 21 :: nat_lit 22 :: nat_lit 24 :: nat_lit 25 :: nat_lit 27 :: nat_lit 28 :: nat_lit 29 :: nat_lit 31 :: nat_lit 32 :: nat_lit 34 :: nat_lit 35 :: nat_lit 36 :: nat_lit 38 :: nat_lit 39 :: nat_lit 41 :: nat_lit 42 :: nat_lit 43 :: nat_lit 45 :: nat_lit 46 :: nat_lit 48 :: nat_lit 49 :: nat_lit 50 :: nat_lit 52 :: nat_lit 53 :: nat_lit 55 :: nat_lit 56 :: nat_lit 57 :: nat_lit 59 :: nat_lit 60 :: nat_lit 62 :: nat_lit 63 :: nat_lit 64 :: nat_lit 66 :: nat_lit 67 :: nat_lit 69 :: nat_lit 70 :: nat_lit 71 :: nat_lit 73 :: nat_lit 74 :: nat_lit 76 :: nat_lit 77 :: nat_lit 85 :: nat_lit 87 :: nat_lit 88 :: nat_lit 90 :: nat_lit 91 :: nat_lit 92 :: nat_lit 94 :: nat_lit 95 :: nat_lit 97 :: nat_lit 98 :: nat_lit 99 :: nat_lit 101 :: nat_lit 102 :: nat_lit 104 :: nat_lit 105 :: nat_lit 106 :: nat_lit 108 :: nat_lit 109 :: nat_lit 111 :: nat_lit 112 :: nat_lit 113 :: nat_lit 114 :: nat_lit 115 :: nat_lit 116 :: nat_lit 117 :: nat_lit 120 :: nat_lit 122 :: nat_lit 123 :: nat_lit 125 :: nat_lit 126 :: nat_lit 127 :: nat_lit 129 :: nat_lit 130 :: nat_lit 132 :: nat_lit 133 :: nat_lit 134 :: nat_lit 137 :: nat_lit 138 :: nat_lit 139 :: nat_lit 142 :: nat_lit 143 :: nat_lit 144 :: nat_lit 146 :: nat_lit 147 :: nat_lit 149 :: nat_lit 150 :: nat_lit 151 :: nat_lit 154 :: nat_lit 155 :: []) = (hd.heap_39 P).map (·.1) := by kernel_rfl
theorem hd.left : LeftO PySem.Challenge.pw_sw0018_01 hd.view_39 [] (fun s => xlAt hd.view_39 [] s && recOk PySem.Challenge.rw_sw0018_01.row.records s)
    (kmHook hd.heap_39 (nat_lit 2 :: nat_lit 3 :: nat_lit 15 :: nat_lit 17 :: nat_lit 18 :: nat_lit 20 :: nat_lit 21 :: nat_lit 22 :: nat_lit 24 :: nat_lit 25 :: nat_lit 27 :: nat_lit 28 :: nat_lit 29 :: nat_lit 31 :: nat_lit 32 :: nat_lit 34 :: nat_lit 35 :: nat_lit 36 :: nat_lit 38 :: nat_lit 39 :: nat_lit 41 :: nat_lit 42 :: nat_lit 43 :: nat_lit 45 :: nat_lit 46 :: nat_lit 48 :: nat_lit 49 :: nat_lit 50 :: nat_lit 52 :: nat_lit 53 :: nat_lit 55 :: nat_lit 56 :: nat_lit 57 :: nat_lit 59 :: nat_lit 60 :: nat_lit 62 :: nat_lit 63 :: nat_lit 64 :: nat_lit 66 :: nat_lit 67 :: nat_lit 69 :: nat_lit 70 :: nat_lit 71 :: nat_lit 73 :: nat_lit 74 :: nat_lit 76 :: nat_lit 77 :: nat_lit 85 :: nat_lit 87 :: nat_lit 88 :: nat_lit 90 :: nat_lit 91 :: nat_lit 92 :: nat_lit 94 :: nat_lit 95 :: nat_lit 97 :: nat_lit 98 :: nat_lit 99 :: nat_lit 101 :: nat_lit 102 :: nat_lit 104 :: nat_lit 105 :: nat_lit 106 :: nat_lit 108 :: nat_lit 109 :: nat_lit 111 :: nat_lit 112 :: nat_lit 113 :: nat_lit 114 :: nat_lit 115 :: nat_lit 116 :: nat_lit 117 :: nat_lit 120 :: nat_lit 122 :: nat_lit 123 :: nat_lit 125 :: nat_lit 126 :: nat_lit 127 :: nat_lit 129 :: nat_lit 130 :: nat_lit 132 :: nat_lit 133 :: nat_lit 134 :: nat_lit 137 :: nat_lit 138 :: nat_lit 139 :: nat_lit 142 :: nat_lit 143 :: nat_lit 144 :: nat_lit 146 :: nat_lit 147 :: nat_lit 149 :: nat_lit 150 :: nat_lit 151 :: nat_lit 154 :: nat_lit 155 :: []) hd.as_eq [121]).obs (kmHook hd.heap_39 (nat_lit 2 :: nat_lit 3 :: nat_lit 15 :: nat_lit 17 :: nat_lit 18 :: nat_lit 20 :: nat_lit 21 :: nat_lit 22 :: nat_lit 24 :: nat_lit 25 :: nat_lit 27 :: nat_lit 28 :: nat_lit 29 :: nat_lit 31 :: nat_lit 32 :: nat_lit 34 :: nat_lit 35 :: nat_lit 36 :: nat_lit 38 :: nat_lit 39 :: nat_lit 41 :: nat_lit 42 :: nat_lit 43 :: nat_lit 45 :: nat_lit 46 :: nat_lit 48 :: nat_lit 49 :: nat_lit 50 :: nat_lit 52 :: nat_lit 53 :: nat_lit 55 :: nat_lit 56 :: nat_lit 57 :: nat_lit 59 :: nat_lit 60 :: nat_lit 62 :: nat_lit 63 :: nat_lit 64 :: nat_lit 66 :: nat_lit 67 :: nat_lit 69 :: nat_lit 70 :: nat_lit 71 :: nat_lit 73 :: nat_lit 74 :: nat_lit 76 :: nat_lit 77 :: nat_lit 85 :: nat_lit 87 :: nat_lit 88 :: nat_lit 90 :: nat_lit 91 :: nat_lit 92 :: nat_lit 94 :: nat_lit 95 :: nat_lit 97 :: nat_lit 98 :: nat_lit 99 :: nat_lit 101 :: nat_lit 102 :: nat_lit 104 :: nat_lit 105 :: nat_lit 106 :: nat_lit 108 :: nat_lit 109 :: nat_lit 111 :: nat_lit 112 :: nat_lit 113 :: nat_lit 114 :: nat_lit 115 :: nat_lit 116 :: nat_lit 117 :: nat_lit 120 :: nat_lit 122 :: nat_lit 123 :: nat_lit 125 :: nat_lit 126 :: nat_lit 127 :: nat_lit 129 :: nat_lit 130 :: nat_lit 132 :: nat_lit 133 :: nat_lit 134 :: nat_lit 137 :: nat_lit 138 :: nat_lit 139 :: nat_lit 142 :: nat_lit 143 :: nat_lit 144 :: nat_lit 146 :: nat_lit 147 :: nat_lit 149 :: nat_lit 150 :: nat_lit 151 :: nat_lit 154 :: nat_lit 155 :: []) hd.as_eq [121]).val 1762 := by
  refine left_of (boot_open (by kernel_rfl) (by decide) (fun s => by kernel_rfl)) fun w => ?_
  unfold topFrom
  rw [PySem.W.Fast.te14082659384304107361, PySem.W.Fast.te14364793385576792824, PySem.W.Fast.te4187177175401517315, PySem.W.Fast.te5923862056798008813]
  kernel_rfl
theorem hd (hc : WalkO hd.view_39 [] (XL hd.view_39 []) (kmHook hd.heap_39 (nat_lit 2 :: nat_lit 3 :: nat_lit 15 :: nat_lit 17 :: nat_lit 18 :: nat_lit 20 :: nat_lit 21 :: nat_lit 22 :: nat_lit 24 :: nat_lit 25 :: nat_lit 27 :: nat_lit 28 :: nat_lit 29 :: nat_lit 31 :: nat_lit 32 :: nat_lit 34 :: nat_lit 35 :: nat_lit 36 :: nat_lit 38 :: nat_lit 39 :: nat_lit 41 :: nat_lit 42 :: nat_lit 43 :: nat_lit 45 :: nat_lit 46 :: nat_lit 48 :: nat_lit 49 :: nat_lit 50 :: nat_lit 52 :: nat_lit 53 :: nat_lit 55 :: nat_lit 56 :: nat_lit 57 :: nat_lit 59 :: nat_lit 60 :: nat_lit 62 :: nat_lit 63 :: nat_lit 64 :: nat_lit 66 :: nat_lit 67 :: nat_lit 69 :: nat_lit 70 :: nat_lit 71 :: nat_lit 73 :: nat_lit 74 :: nat_lit 76 :: nat_lit 77 :: nat_lit 85 :: nat_lit 87 :: nat_lit 88 :: nat_lit 90 :: nat_lit 91 :: nat_lit 92 :: nat_lit 94 :: nat_lit 95 :: nat_lit 97 :: nat_lit 98 :: nat_lit 99 :: nat_lit 101 :: nat_lit 102 :: nat_lit 104 :: nat_lit 105 :: nat_lit 106 :: nat_lit 108 :: nat_lit 109 :: nat_lit 111 :: nat_lit 112 :: nat_lit 113 :: nat_lit 114 :: nat_lit 115 :: nat_lit 116 :: nat_lit 117 :: nat_lit 120 :: nat_lit 122 :: nat_lit 123 :: nat_lit 125 :: nat_lit 126 :: nat_lit 127 :: nat_lit 129 :: nat_lit 130 :: nat_lit 132 :: nat_lit 133 :: nat_lit 134 :: nat_lit 137 :: nat_lit 138 :: nat_lit 139 :: nat_lit 142 :: nat_lit 143 :: nat_lit 144 :: nat_lit 146 :: nat_lit 147 :: nat_lit 149 :: nat_lit 150 :: nat_lit 151 :: nat_lit 154 :: nat_lit 155 :: []) hd.as_eq [121]).says PySem.Challenge.rw_sw0018_01.row.toRowW hd.dlaw [] fun f vs => PySem.call f vs) : PySem.Challenge.rw_sw0018_01.Holds :=
  holds_law hd.said fun k1 => PySem.W.holds_open (q := hd.view_39) (loose := []) (XP := XL hd.view_39 []) (YP := (kmHook hd.heap_39 (nat_lit 2 :: nat_lit 3 :: nat_lit 15 :: nat_lit 17 :: nat_lit 18 :: nat_lit 20 :: nat_lit 21 :: nat_lit 22 :: nat_lit 24 :: nat_lit 25 :: nat_lit 27 :: nat_lit 28 :: nat_lit 29 :: nat_lit 31 :: nat_lit 32 :: nat_lit 34 :: nat_lit 35 :: nat_lit 36 :: nat_lit 38 :: nat_lit 39 :: nat_lit 41 :: nat_lit 42 :: nat_lit 43 :: nat_lit 45 :: nat_lit 46 :: nat_lit 48 :: nat_lit 49 :: nat_lit 50 :: nat_lit 52 :: nat_lit 53 :: nat_lit 55 :: nat_lit 56 :: nat_lit 57 :: nat_lit 59 :: nat_lit 60 :: nat_lit 62 :: nat_lit 63 :: nat_lit 64 :: nat_lit 66 :: nat_lit 67 :: nat_lit 69 :: nat_lit 70 :: nat_lit 71 :: nat_lit 73 :: nat_lit 74 :: nat_lit 76 :: nat_lit 77 :: nat_lit 85 :: nat_lit 87 :: nat_lit 88 :: nat_lit 90 :: nat_lit 91 :: nat_lit 92 :: nat_lit 94 :: nat_lit 95 :: nat_lit 97 :: nat_lit 98 :: nat_lit 99 :: nat_lit 101 :: nat_lit 102 :: nat_lit 104 :: nat_lit 105 :: nat_lit 106 :: nat_lit 108 :: nat_lit 109 :: nat_lit 111 :: nat_lit 112 :: nat_lit 113 :: nat_lit 114 :: nat_lit 115 :: nat_lit 116 :: nat_lit 117 :: nat_lit 120 :: nat_lit 122 :: nat_lit 123 :: nat_lit 125 :: nat_lit 126 :: nat_lit 127 :: nat_lit 129 :: nat_lit 130 :: nat_lit 132 :: nat_lit 133 :: nat_lit 134 :: nat_lit 137 :: nat_lit 138 :: nat_lit 139 :: nat_lit 142 :: nat_lit 143 :: nat_lit 144 :: nat_lit 146 :: nat_lit 147 :: nat_lit 149 :: nat_lit 150 :: nat_lit 151 :: nat_lit 154 :: nat_lit 155 :: []) hd.as_eq [121]).says) hd.left
    (Hook.of _) (Hook.keeps _) (fun s e => xl_of s (Bool.and_eq_true_iff.mp e).1) XL.keeps (by kernel_rfl) (by kernel_rfl) (by kernel_rfl) (fun s e => recFacts_of (Bool.and_eq_true_iff.mp e).2) (by kernel_rfl) k1 (by kernel_rfl)
    ⟨rfl, rfl, rfl, rfl, rfl, by decide +kernel⟩ ⟨[WData.list []], by decide +kernel, by decide +kernel⟩ hc
end
section
/-- what grows: every object that stood stands -/
noncomputable abbrev Ext (h h' : Heap) : Prop := ∀ b o, h.get? b = some o → h'.get? b = some o
theorem Ext.rfl' {h : Heap} : Ext h h := fun _ _ e => e
theorem Ext.trans {a b c : Heap} (x : Ext a b) (y : Ext b c) : Ext a c := fun _ _ e => y _ _ (x _ _ e)

structure Gd (w : World) (h : Heap) : Prop where
  X : (hd.heap_39 w.params).In h
  T : ∃ p loose mg mb, TopRead p loose mg mb h
theorem Gd.keeps {w : World} {h h' : Heap} (G : Gd w h) (k : Ext h h') : Gd w h' :=
  ⟨G.X.keeps k, let ⟨p, l, mg, mb, T⟩ := G.T; ⟨p, l, mg, mb, T.keeps k⟩⟩

noncomputable abbrev Ar (dp un : Nat) (fr : Option (List Env)) (gd : Option (List Code)) : Around := { handled := none, depth := dp, frames := fr, guards := gd, units := un }

/-- the map has these bindings (the first one of a name counts) -/
noncomputable def Has (m : Str → Option Value) (bs : List (Str × Value)) : Prop := ∀ x v, bs.lookup x = some v → m x = some v
theorem Has.of_lookup (bs : List (Str × Value)) : Has (fun y => bs.lookup y) bs := fun _ _ e => e
theorem Has.put {m : Str → Option Value} {bs : List (Str × Value)} (H : Has m bs) (x : Str) (v : Value) : Has (fun y => if y = x then some v else m y) ((x, v) :: bs) := by
  intro y u e
  rw [List.lookup_cons] at e
  by_cases h : y = x
  · subst h; simpa using e
  · have : (y == x) = false := by simpa using h
    rw [this] at e
    simp only [if_neg h]
    exact H y u e
noncomputable def Sub : List (Str × Value) → List (Str × Value) → Prop
  | [], _ => True
  | (x, v) :: r, bs => bs.lookup x = some v ∧ Sub r bs
theorem Has.sub {m : Str → Option Value} {bs : List (Str × Value)} (H : Has m bs) : ∀ {cs : List (Str × Value)}, Sub cs bs → Has m cs
  | [], _ => fun _ _ e => (nomatch e)
  | (x, v) :: r, h => by
    intro y u e
    rw [List.lookup_cons] at e
    by_cases hy : (y == x) = true
    · rw [hy] at e
      cases e
      rw [beq_iff_eq.mp hy]
      exact H _ _ h.1
    · have : (y == x) = false := by simpa using hy
      rw [this] at e
      exact Has.sub H h.2 y u e

section
variable {w : World} {prog : Program} {A : Around} {E : Value → Shared → Prop} {s : Shared} {g : Heap} {Q : Value → Shared → Prop}
  {name qual : Str} {params : Arguments} {body : List Stmt} {scope : Scope} {dV kV doc pm cdv ct oc : Value} {an od : Option Addr} {osl : Array (Option Value)} {f : Addr} {args : List Value} {kw : List (Str × Value)} {binds : List (Str × Value)}
/-- entering a plain def of the text; g: what must stay (a part of the heap) -/
theorem enterG {dp un : Nat} {fr : Option (List Env)} {gd : Option (List Code)} (hsub : Ext g s.heap) (hsz : g.objs.size ≤ s.heap.objs.size) (G : Gd w s.heap) (hroom : dp < recursionLimit)
    (ho : (hd.heap_39 w.params).lookup f = some ⟨oc, od, .func (fnOf name qual params body scope dV kV doc pm an cdv ct), osl⟩) (hcd : codeIn (hd.heap_39 w.params) cdv qual = true)
    (hbind : BindsTo s (fnOf name qual params body scope dV kV doc pm an cdv ct) ⟨args, []⟩ binds) (hloc : ∀ y ∈ binds, scope.names.lookup y.1 = some .local)
    (hco : scope.isCoroutine = false) (hgen : scope.isGenerator = false) (hk : scope.kind = .function) (hcell : ∀ x ∈ scope.names, x.2 ≠ .cell)
    (h : ∀ L h₁ tk m fr', s.heap.objs.size ≤ L → Fr g L h₁ m → Has m binds.reverse → Ext s.heap h₁ →
      wpAny (model prog w) (Ar (dp + 1) (un + 3) fr' gd) (execs body (envOf qual scope L f cdv))
        (fun fl s' => Q (match fl with | .ret v => v | _ => .none) s') (fun _ _ => False) { s with heap := h₁, toks := tk }) :
    wpAny (model prog w) (Ar dp un fr gd) (call (.ref f) args) Q E s := by
  obtain ⟨p, loose, mg, mb, T⟩ := G.T
  refine wpAny_call (codeAny_call_def (fd := fnOf name qual params body scope dV kV doc pm an cdv ct) (body := body) (binds := binds) hroom (G.X _ _ ho) rfl T.nolimit (codeRec_of G.X hcd) rfl hbind hcell hloc (fun h₁ hns hk₁ => ?_) hco hgen hk)
  refine wpAny_mono (h _ h₁ _ _ _ (Nat.le_refl _) ⟨hns, fun b o e => hk₁ b o (hsub _ _ e), hsz⟩ (Has.of_lookup _) hk₁) (fun fl s' hl => hl) fun _ _ y => y.elim

/-- the same with cells -/
theorem enterC {dp un : Nat} {fr : Option (List Env)} {gd : Option (List Code)} (hsub : Ext g s.heap) (hsz : g.objs.size ≤ s.heap.objs.size) (G : Gd w s.heap) (hroom : dp < recursionLimit)
    (ho : (hd.heap_39 w.params).lookup f = some ⟨oc, od, .func (fnOf name qual params body scope dV kV doc pm an cdv ct), osl⟩) (hcd : codeIn (hd.heap_39 w.params) cdv qual = true)
    (hbind : BindsTo s (fnOf name qual params body scope dV kV doc pm an cdv ct) ⟨args, []⟩ binds)
    (hkind : (binds.all fun y => scope.names.lookup y.1 == some .local || scope.names.lookup y.1 == some .cell) = true)
    (hnd : ((cellsFrom 0 scope.names []).map (·.1)).Nodup)
    (hco : scope.isCoroutine = false) (hgen : scope.isGenerator = false) (hk : scope.kind = .function)
    (h : ∀ L h₁ tk cells fr', s.heap.objs.size ≤ L → Fr g L h₁ (bindL (envOfC qual scope L f cdv).kindOf binds fun _ => none) → News g L h₁ cells →
      CellsAre (bindC (envOfC qual scope L f cdv).kindOf binds fun _ => none) (cellsFrom (L + 1) scope.names []) cells → Ext s.heap h₁ →
      wpAny (model prog w) (Ar (dp + 1) (un + 3) fr' gd) (execs body (envOfC qual scope L f cdv))
        (fun fl s' => Q (match fl with | .ret v => v | _ => .none) s') (fun _ _ => False) { s with heap := h₁, toks := tk }) :
    wpAny (model prog w) (Ar dp un fr gd) (call (.ref f) args) Q E s := by
  obtain ⟨p, loose, mg, mb, T⟩ := G.T
  refine wpAny_call (codeAny_call_function hroom (G.X _ _ ho) rfl hco hgen rfl (codeRec_of G.X hcd) (hbind _ _ _ _ ?_))
  refine wpAny_newFunctionEnv_cells hk (kindsX hkind _) fun env' he s' x => ?_
  subst he
  refine ⟨T.nolimit.keeps x.toInCall.keep, codeAny_func ?_⟩
  obtain ⟨h₁, tk, rfl, _⟩ := x.done
  have hk₁ := x.toInCall.keep
  obtain ⟨cells, NC, Y⟩ := Cl.news (h₀ := s.heap) (Nat.le_refl _) fun n c hm => ⟨x.cell n c (lookup_of_mem_nodup (cellsFrom_names scope.names 0 (s.heap.objs.size + 1) [] [] rfl ▸ hnd) hm), x.above n c hm⟩
  refine wpAny_mono (h _ h₁ tk cells _ (Nat.le_refl _) ⟨x.toInCall.ns, fun b o e => hk₁ b o (hsub _ _ e), hsz⟩ (fun p hp => ?_) Y hk₁) (fun fl s' hl => hl) fun _ _ y => y.elim
  refine ⟨(NC p hp).1, (NC p hp).2.1, ?_⟩
  cases q : g.get? p.1 with
  | none => rfl
  | some o => have := hsub _ _ q; rw [(NC p hp).2.2] at this; cases this
end
theorem lift2 {h h' h₀ : Heap} {L : Addr} {m : Str → Option Value} {news : List (Addr × Obj)} (K : Ext h h') (F : Fr h₀ L h m) (N : News h₀ L h news) : Fr h₀ L h' m ∧ News h₀ L h' news := ⟨F.keeps K, N.grown K⟩
end
section
section
variable {M : Model} {A : Around} {E : Value → Shared → Prop} {s : Shared} {h₀ : Heap} {L a : Addr} {m : Str → Option Value} {cn : Str} {cs : Scope} {ccd : Value} {cl : List (Str × Addr)}
  {x : Str} {pos : Pos} {v : Value} {news : List (Addr × Obj)} {bs : List (Str × Value)}
theorem nameH {Q : Value → Shared → Prop} (F : Fr h₀ L s.heap m) (H : Has m bs) (hv : bs.lookup x = some v) (h : Q v s)
    (hk : cs.kind = .function := by rfl) (hx : (envX cn cs L a ccd cl).kindOf x = some .local := by rfl) (hd : (x == ("__debug__" : Str)) = false := by decide) :
    wpAny M A (eval (.Name x pos) (envX cn cs L a ccd cl)) Q E s := nameX_L F (H _ _ hv) h hk hx hd
theorem loadH {Q : Value → Shared → Prop} (F : Fr h₀ L s.heap m) (H : Has m bs) (hv : bs.lookup x = some v) (h : Q v s)
    (hk : cs.kind = .function := by rfl) (hx : (envX cn cs L a ccd cl).kindOf x = some .local := by rfl) :
    wpAny M A (loadName (envX cn cs L a ccd cl) x) Q E s := wpAny_loadName_local hk hx F.ns (H _ _ hv) h
theorem storeH {Q : Unit → Shared → Prop} (F : Fr h₀ L s.heap m) (N : News h₀ L s.heap news) (H : Has m bs)
    (h : ∀ h' m', Fr h₀ L h' m' → News h₀ L h' news → Has m' ((x, v) :: bs) → Q () { s with heap := h', toks := s.toks + 1 })
    (hk : cs.kind = .function := by rfl) (hx : (envX cn cs L a ccd cl).kindOf x = some .local := by rfl) : wpAny M A (storeName (envX cn cs L a ccd cl) x v) Q E s :=
  storeX_L F N (fun h' F' N' => h h' _ F' N' (H.put x v)) hk hx
end
section
variable {prog : Program} {w : World} {A : Around} {E : Value → Shared → Prop} {s : Shared} {h₀ : Heap} {L : Addr} {m : Str → Option Value} {news news' : List (Addr × Obj)}
/-- two parts of a split -/
theorem split2 {x y a b : Str} {t u : Tok} {Q : Value → Shared → Prop} (F : Fr h₀ L s.heap m) (N : News h₀ L s.heap news) (hy : (y.length == 0) = false) (hp : Txt.split x y = [a, b])
    (h : ∀ l h' tk ta tb, Fr h₀ L h' m → News h₀ L h' ((l, listOf #[.str a ta, .str b tb] 0) :: news) → (∀ p ∈ news, p.1 < l) → Q (.ref l) { s with heap := h', toks := tk })
    (hsz : x.length + 2 ≤ sizeLine) : wpAny (model prog w) A (call (.builtin "str.split") [.str x t, .str y u]) Q E s := by
  refine splitN1 F N hy (fun l h' k hl F' N' => ?_) hsz
  rw [hp] at hl
  match l, hl with
  | [(a', ta), (b', tb)], hl =>
    simp only [List.map_cons, List.map_nil, List.cons.injEq, and_true] at hl
    obtain ⟨rfl, rfl⟩ := hl
    exact h _ h' k ta tb F' N' fun p hp => Heap.lt_size (N p hp).1
theorem len_made {l : Addr} {its : Array Value} {n : Nat} {Q : Value → Shared → Prop} (N : News h₀ L s.heap news) (hm : (l, listOf its n) ∈ news) (hs : its.size ≤ 4096)
    (h : ∀ t tk, Q (.int its.size t) { s with toks := tk }) : wpAny (model prog w) A (call (.builtin "len") [.ref l]) Q E s :=
  call_len_list ⟨_, N.get hm, rfl, n, rfl⟩ (by omega) (h _ _)
theorem item_made {value slice : Expr} {l : Addr} {its : Array Value} {n : Nat} {k : Int} {u : Tok} {v : Value} {Q : Value → Shared → Prop} (N : News h₀ L s.heap news) (hm : (l, listOf its n) ∈ news)
    (h0 : 0 ≤ k) (hk : k < 2 ^ 63) (hx : its.toList[k.toNat]? = some v) (h : Q v s)
    (hs : subscripted slice false (.ref l) (.int k u) = operate [.ref l, .int k u] (getItem (.ref l) (.int k u)) := by with_unfolding_all rfl) :
    wpAny (model prog w) A (subscriptTail value slice (.ref l) (.int k u)) Q E s :=
  tail_any (T := "list") ⟨_, N.get hm, rfl⟩ slot_list_getitem.lookup (wpAny_getItem_list ⟨_, N.get hm, rfl, n, rfl⟩ h0 hk (by simpa using hx) h) hs
theorem item_old {value slice : Expr} {l : Addr} {its : Array Value} {k : Int} {u : Tok} {v : Value} {Q : Value → Shared → Prop} (F : Fr h₀ L s.heap m) (hl : h₀.IsList l its)
    (h0 : 0 ≤ k) (hk : k < 2 ^ 63) (hx : its.toList[k.toNat]? = some v) (h : Q v s)
    (hs : subscripted slice false (.ref l) (.int k u) = operate [.ref l, .int k u] (getItem (.ref l) (.int k u)) := by with_unfolding_all rfl) :
    wpAny (model prog w) A (subscriptTail value slice (.ref l) (.int k u)) Q E s := by
  obtain ⟨o, ho, ht, n, hd⟩ := hl.at (F.keep _)
  exact tail_any (T := "list") ⟨_, ho, ht⟩ slot_list_getitem.lookup (wpAny_getItem_list ⟨_, ho, ht, n, hd⟩ h0 hk (by simpa using hx) h) hs
theorem del_made {l : Addr} {its : Array Value} {n : Nat} {i : Int} {u : Tok} {k : Nat} {Q : Unit → Shared → Prop} (F : Fr h₀ L s.heap m) (N : News h₀ L s.heap news)
    (U : Upd l (listOf its n) (listOf (its.toList.eraseIdx k).toArray (n + 1)) news news') (hfit : Builtin.List.listFitsIndex i = true) (hk : seqIndex? i its.size = some k) (hs : its.size ≤ 4096)
    (h : ∀ h', Fr h₀ L h' m → News h₀ L h' news' → Q () { s with heap := h' }) : wpAny (model prog w) A (delItem (.ref l) (.int i u)) Q E s := by
  obtain ⟨pre, post, rfl, rfl, a, b⟩ := U.split
  have z := N (l, listOf its n) (List.mem_append.mpr (.inr (.head _)))
  exact delItem_at (hsz := by rw [sizeLine_eq]; omega) z.1 hfit hk fun h' hs ho' => h h' (F.change hs z.2.1 z.2.2) (news_set N a b hs ho')
end
open Builtin Builtin.Str in
theorem gives_find4 (x y : Str) (i j : Int) (t u v k : Tok) : Gives («str.find» ⟨[.str x t, .str y u, .int i v, .int j k], []⟩) (.int (match occurrences x y (fromIndex x.length i) (min (fromIndex x.length j) x.length) 1 with | k :: _ => (k : Int) | [] => -1)) := by
  show Gives (match occurrences x y (fromIndex x.length i) (min (fromIndex x.length j) x.length) 1 with | k :: _ => retInt k | [] => (do rule "str.find.not-found"; retInt (-1))) _
  cases occurrences x y (fromIndex x.length i) (min (fromIndex x.length j) x.length) 1 with
  | nil => exact .rule (.of_eq rfl)
  | cons k _ => exact .of_eq rfl
section
variable {prog : Program} {w : World} {A : Around} {E : Value → Shared → Prop} {s : Shared}
theorem len_sx {x : List Nat} {t : Tok} {Q : Value → Shared → Prop} (hx : x.length ≤ 4096) (h : ∀ t tk, Q (.int x.length t) { s with toks := tk }) : wpAny (model prog w) A (call (.builtin "len") [.str (sx x) t]) Q E s := by
  refine P.len_str (by rw [sx_len]; omega) ?_
  rw [sx_len]
  exact h _ _
theorem truthy_sx {x : List Nat} {t : Tok} {Q : Bool → Shared → Prop} (hx : x.length ≤ 4096) (h : ∀ tk, Q (!x.isEmpty) { s with toks := tk }) : wpAny (model prog w) A (truthy (.str (sx x) t)) Q E s := by
  refine P.truthy_str (by rw [sx_len]; omega) ?_
  rw [sx_len]
  have : ((x.length : Int) != 0) = !x.isEmpty := by
    cases x with
    | nil => rfl
    | cons a r => simp; omega
  rw [this]
  exact h _
section
variable {value slice : Expr} {x : List Nat} {t : Tok} {h₀ : Heap} {L : Addr} {m : Str → Option Value} {Q : Value → Shared → Prop} {news : List (Addr × Obj)}
theorem cut_ns {j : Int} {uj : Tok} (F : Fr h₀ L s.heap m) (N : News h₀ L s.heap news) (hj : 0 ≤ j) (hx : x.length ≤ 4096) (h : ∀ h' t' k, Fr h₀ L h' m → News h₀ L h' news → Q (.str (sx (x.take j.toNat)) t') { s with heap := h', toks := k })
    (hs : subscripted slice false (.str (sx x) t) (.ref s.heap.objs.size) = operate [.ref s.heap.objs.size, .str (sx x) t] (getItem (.str (sx x) t) (.ref s.heap.objs.size)) := by with_unfolding_all rfl)
    (ht : ∀ r, letTemporaryGo value (.str (sx x) t) r = pure () := by intro _; with_unfolding_all rfl) :
    wpAny (model prog w) A (subscriptTail value slice (.str (sx x) t) (.ref s.heap.objs.size)) Q E { s with heap := s.heap.push { cls := .type "slice", data := .fields #[.none, .int j uj, .none] } } :=
  slice_strN_ns F N (fun h' t' k F' N' => by rw [slice_ns x j hj]; exact h h' t' k F' N') hs ht (by rw [sx_len, sizeLine_eq]; omega)
theorem cut_sn {i : Int} {ui : Tok} (F : Fr h₀ L s.heap m) (N : News h₀ L s.heap news) (hi : 0 ≤ i) (hi' : i ≤ x.length) (hx : x.length ≤ 4096) (h : ∀ h' t' k, Fr h₀ L h' m → News h₀ L h' news → Q (.str (sx (x.drop i.toNat)) t') { s with heap := h', toks := k })
    (hs : subscripted slice false (.str (sx x) t) (.ref s.heap.objs.size) = operate [.ref s.heap.objs.size, .str (sx x) t] (getItem (.str (sx x) t) (.ref s.heap.objs.size)) := by with_unfolding_all rfl)
    (ht : ∀ r, letTemporaryGo value (.str (sx x) t) r = pure () := by intro _; with_unfolding_all rfl) :
    wpAny (model prog w) A (subscriptTail value slice (.str (sx x) t) (.ref s.heap.objs.size)) Q E { s with heap := s.heap.push { cls := .type "slice", data := .fields #[.int i ui, .none, .none] } } :=
  slice_strN_sn F N (fun h' t' k F' N' => by rw [slice_sn x i hi hi']; exact h h' t' k F' N') hs ht (by rw [sx_len, sizeLine_eq]; omega)
theorem cut_ss {i j : Int} {ui uj : Tok} (F : Fr h₀ L s.heap m) (N : News h₀ L s.heap news) (hi : 0 ≤ i) (hij : i ≤ j) (hj : j ≤ x.length) (hx : x.length ≤ 4096) (h : ∀ h' t' k, Fr h₀ L h' m → News h₀ L h' news → Q (.str (sx ((x.drop i.toNat).take (j - i).toNat)) t') { s with heap := h', toks := k })
    (hs : subscripted slice false (.str (sx x) t) (.ref s.heap.objs.size) = operate [.ref s.heap.objs.size, .str (sx x) t] (getItem (.str (sx x) t) (.ref s.heap.objs.size)) := by with_unfolding_all rfl)
    (ht : ∀ r, letTemporaryGo value (.str (sx x) t) r = pure () := by intro _; with_unfolding_all rfl) :
    wpAny (model prog w) A (subscriptTail value slice (.str (sx x) t) (.ref s.heap.objs.size)) Q E { s with heap := s.heap.push { cls := .type "slice", data := .fields #[.int i ui, .int j uj, .none] } } :=
  slice_strN_ss F N (fun h' t' k F' N' => by rw [slice_ss x i j hi hij hj]; exact h h' t' k F' N') hs ht (by rw [sx_len, sizeLine_eq]; omega)
theorem cut_1m1 {ui uj : Tok} (F : Fr h₀ L s.heap m) (N : News h₀ L s.heap news) (h2 : 2 ≤ x.length) (hx : x.length ≤ 4096) (h : ∀ h' t' k, Fr h₀ L h' m → News h₀ L h' news → Q (.str (sx ((x.drop 1).take (x.length - 2))) t') { s with heap := h', toks := k })
    (hs : subscripted slice false (.str (sx x) t) (.ref s.heap.objs.size) = operate [.ref s.heap.objs.size, .str (sx x) t] (getItem (.str (sx x) t) (.ref s.heap.objs.size)) := by with_unfolding_all rfl)
    (ht : ∀ r, letTemporaryGo value (.str (sx x) t) r = pure () := by intro _; with_unfolding_all rfl) :
    wpAny (model prog w) A (subscriptTail value slice (.str (sx x) t) (.ref s.heap.objs.size)) Q E { s with heap := s.heap.push { cls := .type "slice", data := .fields #[.int 1 ui, .int (-1) uj, .none] } } :=
  slice_strN_ss F N (fun h' t' k F' N' => by rw [slice_1m1 x h2]; exact h h' t' k F' N') hs ht (by rw [sx_len, sizeLine_eq]; omega)
theorem item_sx (x : List Nat) (i : Int) (c : Nat) (hi : 0 ≤ i) (hc : x[i.toNat]? = some c) : Txt.item (sx x) i = sx [c] := by
  have hlt : i.toNat < x.length := by
    rcases Nat.lt_or_ge i.toNat x.length with h | h
    · exact h
    · rw [List.getElem?_eq_none h] at hc; cases hc
  rw [item_meets (x := sx x) ⟨hi, by rw [sx_len]; omega⟩]
  have : (sx x).cps.getD i.toNat 0 = c := by
    rw [List.getElem?_eq_getElem hlt] at hc
    injection hc with hc
    simp [Array.getD, hlt, hc]
  rw [this]
theorem sign_at {i : Int} {u : Tok} {c : Nat} (hi : 0 ≤ i) (hc : x[i.toNat]? = some c) (hx : x.length ≤ 4096) (h : ∀ t' tk, Q (.str (sx [c]) t') { s with toks := tk })
    (hs : subscripted slice false (.str (sx x) t) (.int i u) = operate [.str (sx x) t, .int i u] (getItem (.str (sx x) t) (.int i u)) := by with_unfolding_all rfl)
    (ht : ∀ r, letTemporaryGo value (.str (sx x) t) r = pure () := by intro _; with_unfolding_all rfl) :
    wpAny (model prog w) A (subscriptTail value slice (.str (sx x) t) (.int i u)) Q E s := by
  have hlt : i.toNat < x.length := by
    rcases Nat.lt_or_ge i.toNat x.length with h | h
    · exact h
    · rw [List.getElem?_eq_none h] at hc; cases hc
  refine item_str ?_ (by omega) (by rw [sx_len]; omega) (fun _ => by rw [item_sx x i c hi hc]; exact h _ _) hs ht
  exact fitsSsize_of (N := 4096) (by omega) (by omega) (by omega)
theorem add_sxK {y : List Nat} {u : Tok} (hl : x.length + y.length ≤ 4096) (h : ∀ t' tk, Q (.str (sx (x ++ y)) t') { s with toks := tk }) : wpAny (model prog w) A (binaryOp .Add (.str (sx x) t) (.str (sx y) u)) Q E s :=
  add_str (fun t' tk => by rw [add_sx]; exact h t' tk) (by rw [sx_len, sx_len, sizeLine_eq]; omega)
theorem eq_sxK {y : List Nat} {u : Tok} (h : Q (.bool (decide (x = y))) s) : wpAny (model prog w) A (compareOp .Eq (.str (sx x) t) (.str (sx y) u)) Q E s :=
  eq_str (by rw [eq_sx_iff]; exact h)
end
theorem find4e {x y : Str} {i j : Int} {t u v k : Tok} {Q : Value → Shared → Prop} (hy : y.cps = #[]) (h0 : 0 ≤ i) (hij : i ≤ j) (hj : j ≤ x.length) (h : ∀ t tk, Q (.int i t) { s with toks := tk }) :
    wpAny (model prog w) A (call (.builtin "str.find") [.str x t, .str y u, .int i v, .int j k]) Q E s := by
  refine call_gives F.slot_str_find (typeIs_str _ _ _) F.entry_str_find (F.args_str_find_4 _ _ _ _) (gives_find4 x y i j t u v k) ?_
  have e1 : fromIndex x.length i = i.toNat := by unfold fromIndex; rw [if_neg (by omega), Int.max_eq_right h0]
  have e2 : fromIndex x.length j = j.toNat := by unfold fromIndex; rw [if_neg (by omega), Int.max_eq_right (by omega)]
  have hr := occ_empty x y hy i.toNat (min j.toNat x.length) (by omega)
  rw [e1, e2, hr]
  show Q (.int (i.toNat : Int) _) _
  rw [Int.toNat_of_nonneg h0]
  exact h _ _
end
end
section
/-- halts the walk -/
structure Stop (p : Prop) : Prop where
  mk ::
  out : p

/-- the end of a loop's turn -/
inductive TurnOk (h₀ : Heap) (L : Addr) (J : (Str → Option Value) → List (Addr × Obj) → Prop) (I : Addr) (o : Obj) (s₀ : Array GenState × Drawn × OsState) (s₂ : Shared) : Prop
  | mk (h' : Heap) (tk : Nat) (m' : Str → Option Value) (news' : List (Addr × Obj)) (e : s₂ = { heap := h', gens := s₀.1, drawn := s₀.2.1, toks := tk, os := s₀.2.2 }) (F : Fr h₀ L h' m') (N : News h₀ L h' news') (hm : (I, o) ∈ news') (nx : List (Addr × Obj)) (hs : ∀ p ∈ nx, p ∈ news') (hn : ∀ p ∈ nx, p.1 ≠ I) (hj : J m' nx)
noncomputable def TurnJ (h₀ : Heap) (L : Addr) (J : (Str → Option Value) → List (Addr × Obj) → Prop) (I : Addr) (o : Obj) (s : Shared) (Q : Flow → Shared → Prop) (f : Flow) (s₂ : Shared) : Prop :=
  match f with
  | .ret v => Q (.ret v) s₂
  | .brk => Q .next s₂
  | _ => TurnOk h₀ L J I o (s.gens, s.drawn, s.os) s₂

section
variable {prog : Program} {w : World} {A : Around} {E : Value → Shared → Prop} {s : Shared} {env : Env} {h₀ : Heap} {x : Str} {px : Pos} {body : List Stmt} {Q : Flow → Shared → Prop} {X : Value → Shared → Prop}
  {news : List (Addr × Obj)} {m₀ : Str → Option Value}

theorem loopJ {I : Addr} {fp : List Addr} {n : Nat} {P : Nat → Value → Prop} {St : Nat → Heap → Prop} (J : Nat → (Str → Option Value) → List (Addr × Obj) → Prop)
    (hx : env.kindOf x = some .local) (hp : (env.scope.kind == .class || (env.scope.kind == .module && env.locals != env.globals)) = false)
    (W : Walks prog w A I fp [I] n P St) (hIL : I ≠ env.locals) (hI0 : h₀.get? I = none)
    (hfp : ∀ b ∈ fp, b = I ∨ (∃ o, h₀.get? b = some o) ∨ (∃ o, ∀ i m nw, J i m nw → (b, o) ∈ nw))
    (hob : ∀ i h, St i h → ∃ o, h.get? I = some o)
    (hst : St 0 s.heap) (F : Fr h₀ env.locals s.heap m₀) (N : News h₀ env.locals s.heap news) (hnw : ∀ p ∈ news, p.1 ≠ I) (hj : J 0 m₀ news)
    (turn : ∀ i v m₁ news₁ h tk o, i < n → P i v → J i m₁ news₁ → (∀ p ∈ news₁, p.1 ≠ I) → Fr h₀ env.locals h (fun y => if y = x then some v else m₁ y) → News h₀ env.locals h ((I, o) :: news₁) →
      wpAny (model prog w) A (execs body env) (TurnJ h₀ env.locals (J (i + 1)) I o s Q) (fun _ _ => False) { s with heap := h, toks := tk })
    (done : ∀ m₁ news₁ h tk, J n m₁ news₁ → Fr h₀ env.locals h m₁ → News h₀ env.locals h news₁ → Q .next { s with heap := h, toks := tk }) :
    codeAny (model prog w) A (.forLoop (.Name x px) (.ref I) body [] env) (fun r s' => match r with | .ok f => Q f s' | .error e => X e s') s := by
  have old : ∀ b o, h₀.get? b = some o → b ∉ [I] := fun b o e hb => by rw [List.mem_singleton.mp hb, hI0] at e; cases e
  refine codeAny_forLoop
    (fun k s' => ∃ h' tk m' news' i, s' = { s with heap := h', toks := tk } ∧ St i h' ∧ Fr h₀ env.locals h' m' ∧ News h₀ env.locals h' news' ∧ (∀ p ∈ news', p.1 ≠ I) ∧ J i m' news' ∧ i ≤ n ∧ k = n + 1 - i) ?_ (n + 1)
    ⟨s.heap, s.toks, m₀, news, 0, rfl, hst, F, N, hnw, hj, Nat.zero_le _, rfl⟩
  rintro k s' ⟨h', tk, m', news', i, rfl, hst', F', N', hnw', hJ, hi, rfl⟩
  have next : ∀ h₁ : Heap, (∀ b o, b ∉ [I] → h'.get? b = some o → h₁.get? b = some o) → Fr h₀ env.locals h₁ m' ∧ News h₀ env.locals h₁ news' := fun h₁ hk₁ =>
    ⟨⟨F'.ns.at' fun o e => hk₁ _ o (fun q => hIL (List.mem_singleton.mp q).symm) e, fun b o e => hk₁ b o (old b o e) (F'.keep b o e), F'.above⟩,
     fun p hp => ⟨hk₁ _ _ (fun q => hnw' p hp (List.mem_singleton.mp q)) (N' p hp).1, (N' p hp).2⟩⟩
  by_cases hlt : i < n
  · refine W.item i _ _ _ hlt hst' fun v h₁ tk₁ hP hst₁ hk₁ => ?_
    obtain ⟨F₁, N₁⟩ := next h₁ hk₁
    refine wpAny_assign_Name (wpAny_storeName_local hx F₁.ns (fun h₂ hn₂ hs₂ => ?_) hp)
    have F₂ := F₁.set hn₂ hs₂
    obtain ⟨o, ho⟩ := hob _ _ hst₁
    have ho₂ : h₂.get? I = some o := (hs₂.2 I hIL).trans ho
    have N₂ : News h₀ env.locals h₂ ((I, o) :: news') := by
      intro p hp
      rcases List.mem_cons.mp hp with rfl | hp
      · exact ⟨ho₂, hIL, hI0⟩
      · exact (N₁.set hs₂) p hp
    refine wpAny_mono (turn i v m' news' _ _ o hlt hP hJ hnw' F₂ N₂) (fun f s₃ h₃ => ?_) fun _ _ e => e.elim
    have fin : TurnOk h₀ env.locals (J (i + 1)) I o (s.gens, s.drawn, s.os) s₃ →
        ∃ m, m < n + 1 - i ∧ ∃ h' tk m' news' i, s₃ = { s with heap := h', toks := tk } ∧ St i h' ∧ Fr h₀ env.locals h' m' ∧ News h₀ env.locals h' news' ∧ (∀ p ∈ news', p.1 ≠ I) ∧ J i m' news' ∧ i ≤ n ∧ m = n + 1 - i := by
      rintro ⟨h₃', tk₃, m₃, news₃, rfl, F₃, N₃, hI₃, nx, hsub, hne, hJ₃⟩
      refine ⟨n + 1 - (i + 1), by omega, h₃', tk₃, m₃, nx, i + 1, rfl, ?_, F₃, fun p hp => N₃ p (hsub p hp), hne, hJ₃, hlt, rfl⟩
      refine W.frame _ _ _ hst₁ fun b hb o' e => ?_
      rcases hfp b hb with rfl | ⟨q, hq⟩ | ⟨q, hq⟩
      · rw [ho] at e; cases e; exact (N₃ _ hI₃).1
      · have e1 := F₂.keep b q hq
        have e2 : h₂.get? b = some o' := (hs₂.2 b (fun z => by
          rw [z] at hq
          exact absurd (Nat.lt_of_lt_of_le (Heap.lt_size hq) F₂.above) (Nat.lt_irrefl _))).trans e
        rw [e1] at e2; cases e2
        exact F₃.keep b _ hq
      · have hm := List.mem_cons_of_mem (I, o) (hq _ _ _ hJ)
        have e1 := (N₂ _ hm).1
        have e2 : h₂.get? b = some o' := (hs₂.2 b (N₂ _ hm).2.1).trans e
        rw [e1] at e2; cases e2
        exact (N₃ _ (hsub _ (hq _ _ _ hJ₃))).1
    cases f with
    | ret v => exact h₃
    | brk => exact h₃
    | cont => exact fin h₃
    | next => exact fin h₃
  · have hin : i = n := by omega
    subst hin
    refine W.done _ _ _ hst' fun h₁ tk₁ hk₁ => wpAny_execs_nil ?_
    obtain ⟨F₁, N₁⟩ := next h₁ hk₁
    exact done m' news' h₁ tk₁ hJ F₁ N₁

/-- a list of the ledger that the turns leave -/
theorem iterMade {l : Addr} {its : Array Value} {ep : Nat} (J : Nat → (Str → Option Value) → List (Addr × Obj) → Prop) (hh : A.handled = none)
    (hx : env.kindOf x = some .local) (hp : (env.scope.kind == .class || (env.scope.kind == .module && env.locals != env.globals)) = false)
    (F : Fr h₀ env.locals s.heap m₀) (N : News h₀ env.locals s.heap news) (hJl : ∀ i m nw, J i m nw → (l, listOf its ep) ∈ nw) (hj : J 0 m₀ news)
    (turn : ∀ i v m₁ news₁ I h tk o, its[i]? = some v → J i m₁ news₁ → (∀ p ∈ news₁, p.1 ≠ I) → Fr h₀ env.locals h (fun y => if y = x then some v else m₁ y) → News h₀ env.locals h ((I, o) :: news₁) →
      wpAny (model prog w) A (execs body env) (TurnJ h₀ env.locals (J (i + 1)) I o s Q) (fun _ _ => False) { s with heap := h, toks := tk })
    (done : ∀ m₁ news₁ h tk, J its.size m₁ news₁ → Fr h₀ env.locals h m₁ → News h₀ env.locals h news₁ → Q .next { s with heap := h, toks := tk }) :
    wpAny (model prog w) A (pyIter (.ref l)) (fun it s₂ => codeAny (model prog w) A (.forLoop (.Name x px) it body [] env) (fun r s' => match r with | .ok f => Q f s' | .error e => X e s') s₂) E s := by
  have hm := hJl _ _ _ hj
  have hl : s.heap.IsList l its := ⟨_, N.get hm, rfl, ep, rfl⟩
  have hne : l ≠ s.heap.objs.size := Nat.ne_of_lt (Heap.lt_size (N.get hm))
  refine wpAny_pyIter_list hl ?_
  refine loopJ (s := { s with heap := s.heap.push { cls := .type "list_iterator", data := .fields #[.ref l, .int 0 0] } }) J hx hp (Walks.list hh s.heap.objs.size l hne its) (Nat.ne_of_gt F.ns.lt) (next_is_new F) ?_ ?_
    ⟨⟨_, Heap.get?_push_size _ rfl, rfl, rfl⟩, hl.at fun o e => Heap.get?_push_of_some _ e⟩ (F.push _) (fun p hp => ⟨Heap.get?_push_of_some _ (N p hp).1, (N p hp).2⟩) (fun p hp => Nat.ne_of_lt (Heap.lt_size (N p hp).1)) hj ?_ ?_
  · intro b hb
    rcases List.mem_cons.mp hb with e | hb
    · exact .inl e
    · rw [List.mem_singleton.mp hb]; exact .inr (.inr ⟨_, hJl⟩)
  · rintro i h ⟨⟨o, ho, _⟩, _⟩; exact ⟨o, ho⟩
  · intro i v m₁ news₁ h tk o _ hP hJ hne F₁ N₁
    exact turn i v m₁ news₁ _ h tk o hP hJ hne F₁ N₁
  · exact done

/-- a list that stands below -/
theorem iterOld {l : Addr} {its : Array Value} (J : Nat → (Str → Option Value) → List (Addr × Obj) → Prop) (hh : A.handled = none)
    (hx : env.kindOf x = some .local) (hp : (env.scope.kind == .class || (env.scope.kind == .module && env.locals != env.globals)) = false)
    (F : Fr h₀ env.locals s.heap m₀) (N : News h₀ env.locals s.heap news) (hl₀ : h₀.IsList l its) (hj : J 0 m₀ news)
    (turn : ∀ i v m₁ news₁ I h tk o, its[i]? = some v → J i m₁ news₁ → (∀ p ∈ news₁, p.1 ≠ I) → Fr h₀ env.locals h (fun y => if y = x then some v else m₁ y) → News h₀ env.locals h ((I, o) :: news₁) →
      wpAny (model prog w) A (execs body env) (TurnJ h₀ env.locals (J (i + 1)) I o s Q) (fun _ _ => False) { s with heap := h, toks := tk })
    (done : ∀ m₁ news₁ h tk, J its.size m₁ news₁ → Fr h₀ env.locals h m₁ → News h₀ env.locals h news₁ → Q .next { s with heap := h, toks := tk }) :
    wpAny (model prog w) A (pyIter (.ref l)) (fun it s₂ => codeAny (model prog w) A (.forLoop (.Name x px) it body [] env) (fun r s' => match r with | .ok f => Q f s' | .error e => X e s') s₂) E s := by
  have hl : s.heap.IsList l its := hl₀.at fun o e => F.keep l o e
  obtain ⟨ol, hol, _⟩ := id hl₀
  have hne : l ≠ s.heap.objs.size := Nat.ne_of_lt (Heap.lt_size (F.keep _ _ hol))
  refine wpAny_pyIter_list hl ?_
  refine loopJ (s := { s with heap := s.heap.push { cls := .type "list_iterator", data := .fields #[.ref l, .int 0 0] } }) J hx hp (Walks.list hh s.heap.objs.size l hne its) (Nat.ne_of_gt F.ns.lt) (next_is_new F) ?_ ?_
    ⟨⟨_, Heap.get?_push_size _ rfl, rfl, rfl⟩, hl.at fun o e => Heap.get?_push_of_some _ e⟩ (F.push _) (fun p hp => ⟨Heap.get?_push_of_some _ (N p hp).1, (N p hp).2⟩) (fun p hp => Nat.ne_of_lt (Heap.lt_size (N p hp).1)) hj ?_ ?_
  · intro b hb
    rcases List.mem_cons.mp hb with e | hb
    · exact .inl e
    · rw [List.mem_singleton.mp hb]; exact .inr (.inl ⟨_, hol⟩)
  · rintro i h ⟨⟨o, ho, _⟩, _⟩; exact ⟨o, ho⟩
  · intro i v m₁ news₁ h tk o _ hP hJ hne F₁ N₁
    exact turn i v m₁ news₁ _ h tk o hP hJ hne F₁ N₁
  · exact done

theorem iterTuple {l : Addr} {its : Array Value} {ep : Nat} (J : Nat → (Str → Option Value) → List (Addr × Obj) → Prop) (hh : A.handled = none)
    (hx : env.kindOf x = some .local) (hp : (env.scope.kind == .class || (env.scope.kind == .module && env.locals != env.globals)) = false)
    (F : Fr h₀ env.locals s.heap m₀) (N : News h₀ env.locals s.heap news) (hJl : ∀ i m nw, J i m nw → (l, ({ cls := .type "tuple", data := .seq its ep } : Obj)) ∈ nw) (hj : J 0 m₀ news)
    (turn : ∀ i v m₁ news₁ I h tk o, its[i]? = some v → J i m₁ news₁ → (∀ p ∈ news₁, p.1 ≠ I) → Fr h₀ env.locals h (fun y => if y = x then some v else m₁ y) → News h₀ env.locals h ((I, o) :: news₁) →
      wpAny (model prog w) A (execs body env) (TurnJ h₀ env.locals (J (i + 1)) I o s Q) (fun _ _ => False) { s with heap := h, toks := tk })
    (done : ∀ m₁ news₁ h tk, J its.size m₁ news₁ → Fr h₀ env.locals h m₁ → News h₀ env.locals h news₁ → Q .next { s with heap := h, toks := tk }) :
    wpAny (model prog w) A (pyIter (.ref l)) (fun it s₂ => codeAny (model prog w) A (.forLoop (.Name x px) it body [] env) (fun r s' => match r with | .ok f => Q f s' | .error e => X e s') s₂) E s := by
  have hm := hJl _ _ _ hj
  have hl : s.heap.IsTuple l its := ⟨_, N.get hm, rfl, ep, rfl⟩
  have hne : l ≠ s.heap.objs.size := Nat.ne_of_lt (Heap.lt_size (N.get hm))
  refine wpAny_pyIter_tuple hl ?_
  refine loopJ (s := { s with heap := s.heap.push { cls := .type "tuple_iterator", data := .fields #[.ref l, .int 0 0] } }) J hx hp (Walks.tuple hh s.heap.objs.size l hne its) (Nat.ne_of_gt F.ns.lt) (next_is_new F) ?_ ?_
    ⟨⟨_, Heap.get?_push_size _ rfl, rfl, rfl⟩, hl.at fun o e => Heap.get?_push_of_some _ e⟩ (F.push _) (fun p hp => ⟨Heap.get?_push_of_some _ (N p hp).1, (N p hp).2⟩) (fun p hp => Nat.ne_of_lt (Heap.lt_size (N p hp).1)) hj ?_ ?_
  · intro b hb
    rcases List.mem_cons.mp hb with e | hb
    · exact .inl e
    · rw [List.mem_singleton.mp hb]; exact .inr (.inr ⟨_, hJl⟩)
  · rintro i h ⟨⟨o, ho, _⟩, _⟩; exact ⟨o, ho⟩
  · intro i v m₁ news₁ h tk o _ hP hJ hne F₁ N₁
    exact turn i v m₁ news₁ _ h tk o hP hJ hne F₁ N₁
  · exact done

/-- a range by ones -/
theorem iterRange {r : Addr} {a₀ b₀ : Int} {t₀ u₀ v₀ : Tok} {n : Nat} (J : Nat → (Str → Option Value) → List (Addr × Obj) → Prop) (hh : A.handled = none)
    (hx : env.kindOf x = some .local) (hp : (env.scope.kind == .class || (env.scope.kind == .module && env.locals != env.globals)) = false)
    (F : Fr h₀ env.locals s.heap m₀) (N : News h₀ env.locals s.heap news) (hr : IsRange s.heap r a₀ b₀ 1 t₀ u₀ v₀) (hsmall : Builtin.Range.small a₀ b₀ 1 = true) (hn : Builtin.Range.rangeSize a₀ b₀ 1 = (n : Int)) (hj : J 0 m₀ news)
    (turn : ∀ i t m₁ news₁ I h tk o, i < n → J i m₁ news₁ → (∀ p ∈ news₁, p.1 ≠ I) → Fr h₀ env.locals h (fun y => if y = x then some (.int (a₀ + (i : Nat)) t) else m₁ y) → News h₀ env.locals h ((I, o) :: news₁) →
      wpAny (model prog w) A (execs body env) (TurnJ h₀ env.locals (J (i + 1)) I o s Q) (fun _ _ => False) { s with heap := h, toks := tk })
    (done : ∀ m₁ news₁ h tk, J n m₁ news₁ → Fr h₀ env.locals h m₁ → News h₀ env.locals h news₁ → Q .next { s with heap := h, toks := tk }) :
    wpAny (model prog w) A (pyIter (.ref r)) (fun it s₂ => codeAny (model prog w) A (.forLoop (.Name x px) it body [] env) (fun r s' => match r with | .ok f => Q f s' | .error e => X e s') s₂) E s := by
  refine wpAny_pyIter_range hr hsmall ?_
  refine loopJ (s := { s with heap := s.heap.push { cls := .type "range_iterator", data := .fields #[rawInt a₀, rawInt (Builtin.Range.rangeSize a₀ b₀ 1), rawInt 1] } }) J hx hp ((Walks.range hh s.heap.objs.size a₀ 1 n).bound) (Nat.ne_of_gt F.ns.lt) (next_is_new F) ?_ ?_
    (by show IsRangeIter _ _ _ _ _; rw [hn]; simpa using Heap.get?_push_size _ rfl) (F.push _) (fun p hp => ⟨Heap.get?_push_of_some _ (N p hp).1, (N p hp).2⟩) (fun p hp => Nat.ne_of_lt (Heap.lt_size (N p hp).1)) hj ?_ ?_
  · intro b hb
    exact .inl (List.mem_singleton.mp hb)
  · intro i h hs; exact ⟨_, hs⟩
  · rintro i v m₁ news₁ h tk o _ ⟨hi, t, rfl⟩ hJ hne F₁ N₁
    refine turn i t m₁ news₁ _ h tk o hi hJ hne ?_ N₁
    rw [Int.mul_one] at F₁
    exact F₁
  · exact done
end
end
section
section
variable {prog : Program} {w : World} {A : Around} {E : Value → Shared → Prop} {s : Shared} {env : Env} {h₀ : Heap} {L : Addr} {m : Str → Option Value} {news : List (Addr × Obj)}
  {scope : Scope} {cl : List (Str × Addr)} {x : Str} {ifs : List Expr} {elt : Expr} {Q : Value → Shared → Prop}

/-- a comprehension's block at one item, from a state that has grown -/
structure CompQ (prog : Program) (w : World) (A : Around) (env : Env) (scope : Scope) (cl : List (Str × Addr)) (x : Str) (ifs : List Expr) (elt : Expr) (P : Value → Prop) (p : Value → Bool) (F : Value → Value → Prop) (s : Shared) : Prop where
  tests : ∀ C v (s₃ : Shared) m₃ E' (Qb : Bool → Shared → Prop), s.heap.objs.size ≤ C → P v → s₃.heap.Ns C m₃ → m₃ x = some v → Ext s.heap s₃.heap → (∀ h' tk, Ext s₃.heap h' → Qb (p v) { s₃ with heap := h', toks := tk }) →
    wpAny (model prog w) A (forIn ifs true fun c r => if r = true then do let ok ← isTrue c (compEnvC scope cl C env) (eval c (compEnvC scope cl C env)); pure (ForInStep.yield ok) else pure (ForInStep.yield r)) Qb E' s₃
  elt : ∀ C v (s₃ : Shared) m₃ E' (Qv : Value → Shared → Prop), s.heap.objs.size ≤ C → P v → p v = true → s₃.heap.Ns C m₃ → m₃ x = some v → Ext s.heap s₃.heap → (∀ y h' tk, F v y → Ext s₃.heap h' → Qv y { s₃ with heap := h', toks := tk }) →
    wpAny (model prog w) A (eval elt (compEnvC scope cl C env)) Qv E' s₃

theorem CompQ.quiet {P : Value → Prop} {p : Value → Bool} {F : Value → Value → Prop} {Pn : Nat → Value → Prop} {o : Obj} (q : CompQ prog w A env scope cl x ifs elt P p F s) (hP : ∀ i v, Pn i v → P v) :
    QuietOnC prog w A env scope cl x ifs elt [s.heap.objs.size] Pn p F { s with heap := s.heap.push o } := by
  have up : ∀ (s₃ : Shared), (∀ b o', b ∉ [s.heap.objs.size] → (s.heap.push o).get? b = some o' → s₃.heap.get? b = some o') → Ext s.heap s₃.heap := fun s₃ hk b o' e =>
    hk b o' (fun hb => Nat.lt_irrefl _ ((List.mem_singleton.mp hb) ▸ Heap.lt_size e)) (Heap.get?_push_of_some _ e)
  have sz : ∀ {C : Nat}, (s.heap.push o).objs.size ≤ C → s.heap.objs.size ≤ C := fun h => by rw [Heap.size_push] at h; omega
  constructor
  · intro C i v s₃ m₃ E' hC hv hn hm hk _
    exact q.tests C v s₃ m₃ E' _ (sz hC) (hP _ _ hv) hn hm (up s₃ hk) fun h' tk hx => ⟨rfl, h', tk, rfl, hx⟩
  · intro C i v s₃ m₃ E' hC hv hp hn hm hk _
    exact q.elt C v s₃ m₃ E' _ (sz hC) (hP _ _ hv) hp hn hm (up s₃ hk) fun y h' tk hy hx => ⟨hy, h', tk, rfl, hx⟩

/-- the post of a comprehension's source -/
noncomputable def CompPostM (prog : Program) (w : World) (A : Around) (env : Env) (scope : Scope) (cl : List (Str × Addr)) (x : Str) (ifs : List Expr) (elt : Expr) (p : Value → Bool) (F : Value → Value → Prop) (Q : Value → Shared → Prop) (it : Value) (s₂ : Shared) : Prop :=
  ∃ I fp wr n P St, it = .ref I ∧ Walks prog w A I fp wr n P St ∧ n ≤ sizeLine ∧ St 0 s₂.heap ∧ (∀ b ∈ fp, b < s₂.heap.objs.size) ∧
      QuietOnC prog w A env scope cl x ifs elt wr P p F s₂ ∧
      (∀ D h' tk ys (vs : List Value), s₂.heap.get? D = none → h'.IsList D ys → h'.PlainList D ys → vs.length = n → (∀ j v, vs[j]? = some v → P j v) → Paired F (vs.filter p) ys.toList →
        (∀ b o, b ∉ wr → s₂.heap.get? b = some o → h'.get? b = some o) → Q (.ref D) { s₂ with heap := h', toks := tk })

noncomputable def CompMark (cl : List (Str × Addr)) (p : Value → Bool) (F : Value → Value → Prop) : Prop := True
theorem compSrc {px : Pos} {iter : Expr} {pos : Pos} (p : Value → Bool) (F : Value → Value → Prop)
    (hclos : closureFor scope env = pure cl) (hcell : ∀ y ∈ scope.names, y.2 ≠ .cell) (hkind : scope.kind = .function)
    (hnames : ∀ y ∈ scope.names, y.2 = .local → scope.names.lookup y.1 = some .local) (hx : scope.names.lookup x = some .local)
    (hs : ∀ x, foldedSetIterable iter env x = pure x)
    (h : wpAny (model prog w) A (eval iter env) (fun xv s₁ => wpAny (model prog w) A (pyIter xv) (CompPostM prog w A env scope cl x ifs elt p F Q) E s₁) E s) :
    wpAny (model prog w) A (eval (.ListComp elt [⟨.Name x px, iter, ifs, 0⟩] scope pos) env) Q E s :=
  wpAny_ListComp_free p F hclos hcell hkind hnames hx h hs

theorem compSrcM {px : Pos} {iter : Expr} {pos : Pos} {p : Value → Bool} {F : Value → Value → Prop} (_M : CompMark cl p F)
    (hclos : closureFor scope env = pure cl) (hcell : ∀ y ∈ scope.names, y.2 ≠ .cell) (hkind : scope.kind = .function)
    (hnames : ∀ y ∈ scope.names, y.2 = .local → scope.names.lookup y.1 = some .local) (hx : scope.names.lookup x = some .local)
    (hs : ∀ x, foldedSetIterable iter env x = pure x)
    (h : wpAny (model prog w) A (eval iter env) (fun xv s₁ => wpAny (model prog w) A (pyIter xv) (CompPostM prog w A env scope cl x ifs elt p F Q) E s₁) E s) :
    wpAny (model prog w) A (eval (.ListComp elt [⟨.Name x px, iter, ifs, 0⟩] scope pos) env) Q E s :=
  wpAny_ListComp_free p F hclos hcell hkind hnames hx h hs

theorem compEnd {P : Nat → Value → Prop} {n : Nat} {F : Value → Value → Prop} {p : Value → Bool} {o : Obj} (F₀ : Fr h₀ L s.heap m) (N : News h₀ L s.heap news)
    (ret : ∀ D ys k h' tk (vs : List Value), Fr h₀ L h' m → News h₀ L h' ((D, listOf ys k) :: news) → (∀ q ∈ news, q.1 ≠ D) → vs.length = n → (∀ j v, vs[j]? = some v → P j v) → Paired F (vs.filter p) ys.toList → Ext s.heap h' → s.heap.get? D = none → Q (.ref D) { s with heap := h', toks := tk }) :
    ∀ D h' tk ys (vs : List Value), (s.heap.push o).get? D = none → h'.IsList D ys → h'.PlainList D ys → vs.length = n → (∀ j v, vs[j]? = some v → P j v) → Paired F (vs.filter p) ys.toList →
        (∀ b o', b ∉ [s.heap.objs.size] → (s.heap.push o).get? b = some o' → h'.get? b = some o') → Q (.ref D) { s with heap := h', toks := tk } := by
  intro D h' tk ys vs hD _ hpl hlen hP hF hk
  have K : Ext s.heap h' := fun b o' e => hk b o' (fun hb => Nat.lt_irrefl _ ((List.mem_singleton.mp hb) ▸ Heap.lt_size e)) (Heap.get?_push_of_some _ e)
  obtain ⟨F', N'⟩ := lift2 K F₀ N
  obtain ⟨k, hk'⟩ := hpl
  have hDs : s.heap.get? D = none := by
    cases e : s.heap.get? D with
    | none => rfl
    | some q => rw [Heap.get?_push_of_some _ e] at hD; cases hD
  have hD0 : h₀.get? D = none := by
    cases e : h₀.get? D with
    | none => rfl
    | some q => rw [F₀.keep _ _ e] at hDs; cases hDs
  refine ret D ys k h' tk vs F' (News.more F' N' hk' (fun es n e => nomatch e) hD0) (fun q hq => ?_) hlen hP hF K hDs
  intro e
  rw [← e, (N q hq).1] at hDs
  cases hDs

/-- over a list -/
theorem compList {l : Addr} {its : Array Value} {p : Value → Bool} {F : Value → Value → Prop} (hh : A.handled = none) (hl : s.heap.IsList l its) (hsz : its.size ≤ 4096)
    (q : CompQ prog w A env scope cl x ifs elt (· ∈ its.toList) p F s) (F₀ : Fr h₀ L s.heap m) (N : News h₀ L s.heap news)
    (ret : ∀ D ys k h' tk, Fr h₀ L h' m → News h₀ L h' ((D, listOf ys k) :: news) → (∀ q ∈ news, q.1 ≠ D) → Paired F (its.toList.filter p) ys.toList → Ext s.heap h' → s.heap.get? D = none → Q (.ref D) { s with heap := h', toks := tk }) :
    wpAny (model prog w) A (pyIter (.ref l)) (CompPostM prog w A env scope cl x ifs elt p F Q) E s := by
  obtain ⟨ol, hol, _⟩ := id hl
  have hlt := Heap.lt_size hol
  refine wpAny_pyIter_list hl ?_
  refine ⟨s.heap.objs.size, _, _, its.size, _, _, rfl, Walks.list hh s.heap.objs.size l (Nat.ne_of_lt hlt) its, by rw [sizeLine_eq]; omega,
    ⟨⟨_, Heap.get?_push_size _ rfl, rfl, rfl⟩, hl.at fun o e => Heap.get?_push_of_some _ e⟩, ?_, q.quiet (fun i v h => Array.mem_toList_iff.mpr (Array.mem_of_getElem? h)), ?_⟩
  · intro b hb
    rcases List.mem_cons.mp hb with e | hb
    · rw [e]; simp [Heap.size_push]
    · rw [List.mem_singleton.mp hb, Heap.size_push]; exact Nat.lt_succ_of_lt hlt
  · refine compEnd F₀ N fun D ys k h' tk vs F' N' hne hlen hP hF K hD => ret D ys k h' tk F' N' hne ?_ K hD
    have : vs = its.toList := by
      apply List.ext_getElem?
      intro j
      rcases Nat.lt_or_ge j vs.length with h | h
      · have := hP j vs[j] (List.getElem?_eq_getElem h)
        rw [List.getElem?_eq_getElem h]
        simpa using this.symm
      · rw [List.getElem?_eq_none h, List.getElem?_eq_none (by simpa [← hlen] using h)]
    rw [← this]; exact hF

noncomputable def IsI (v : Value) (lo hi : Int) : Prop := ∃ k t, v = .int k t ∧ lo ≤ k ∧ k < hi
/-- over a range -/
theorem compRange {r : Addr} {a₀ b₀ : Int} {t₀ u₀ v₀ : Tok} {n : Nat} {p : Int → Bool} (hh : A.handled = none) (hr : IsRange s.heap r a₀ b₀ 1 t₀ u₀ v₀) (hsmall : Builtin.Range.small a₀ b₀ 1 = true) (hn : Builtin.Range.rangeSize a₀ b₀ 1 = (n : Int)) (hsz : n ≤ 4096)
    (q : CompQ prog w A env scope cl x ifs elt (IsI · a₀ (a₀ + n)) (fun v => match v with | .int k _ => p k | _ => false) (fun v y => y = v) s) (F₀ : Fr h₀ L s.heap m) (N : News h₀ L s.heap news)
    (ret : ∀ D ys k h' tk, Fr h₀ L h' m → News h₀ L h' ((D, listOf ys k) :: news) → (∀ q ∈ news, q.1 ≠ D) → IntsAre ys.toList (((List.range n).map fun i => a₀ + (i : Nat)).filter p) → Ext s.heap h' → s.heap.get? D = none → Q (.ref D) { s with heap := h', toks := tk }) :
    wpAny (model prog w) A (pyIter (.ref r)) (CompPostM prog w A env scope cl x ifs elt (fun v => match v with | .int k _ => p k | _ => false) (fun v y => y = v) Q) E s := by
  refine wpAny_pyIter_range hr hsmall ?_
  refine ⟨s.heap.objs.size, _, _, n, _, _, rfl, (Walks.range hh s.heap.objs.size a₀ 1 n).bound, by rw [sizeLine_eq]; omega, (by show IsRangeIter _ _ _ _ _; rw [hn]; simpa using Heap.get?_push_size _ rfl), ?_, q.quiet ?_, ?_⟩
  · intro b hb
    rw [List.mem_singleton.mp hb]; simp [Heap.size_push]
  · rintro i v ⟨hi, t, rfl⟩
    exact ⟨_, t, rfl, by omega, by omega⟩
  · refine compEnd F₀ N fun D ys k h' tk vs F' N' hne hlen hP hF K hD => ret D ys k h' tk F' N' hne ?_ K hD
    have hys : ys.toList = vs.filter (fun v => match v with | .int k _ => p k | _ => false) := by
      have : ∀ {l₁ l₂ : List Value}, Paired (fun v y => y = v) l₁ l₂ → l₂ = l₁ := by
        intro l₁ l₂ h
        induction h with
        | nil => rfl
        | cons a _ ih => rw [a, ih]
      exact this hF
    rw [hys]
    have main : ∀ (vs : List Value) (k : Nat), (∀ j v, vs[j]? = some v → ∃ t, v = Value.int (a₀ + ((k + j : Nat) : Int)) t) →
        IntsAre (vs.filter (fun v => match v with | .int k _ => p k | _ => false)) ((((List.range' k vs.length)).map fun i => a₀ + (i : Nat)).filter p) := by
      intro vs
      induction vs with
      | nil => intro k _; exact .nil
      | cons v r ih =>
        intro k hv
        obtain ⟨t, rfl⟩ := hv 0 v rfl
        have ih' := ih (k + 1) fun j v' h => by
          obtain ⟨t, e⟩ := hv (j + 1) v' (by simpa using h)
          exact ⟨t, by rw [e]; congr 2; omega⟩
        rw [List.length_cons, List.range'_succ, List.map_cons]
        by_cases hp : p (a₀ + (k : Int)) = true
        · rw [List.filter_cons_of_pos (by simpa using hp), List.filter_cons_of_pos (by simpa using hp)]
          exact .cons _ _ ih'
        · rw [List.filter_cons_of_neg (by simpa using hp), List.filter_cons_of_neg (by simpa using hp)]
          exact ih'
    have := main vs 0 fun j v h => by
      obtain ⟨_, t, e⟩ := hP j v h
      exact ⟨t, by rw [e]; simp⟩
    rwa [hlen, ← List.range_eq_range'] at this
end
section
variable {prog : Program} {w : World} {A : Around} {E : Value → Shared → Prop} {s : Shared} {env : Env} {Q : Value → Shared → Prop}
theorem nameBE {M : Model} {x : Str} {pos : Pos} {v : Value} (G : Gd w s.heap) (e : nsIn (hd.heap_39 w.params) mainGlobals x = some none) (hv : bootBuiltins x = some v) (hn : x ≠ "__name__") (h : Q v s)
    (hg : env.globals = mainGlobals) (hb : env.builtins = builtinsNs) (hk : env.scope.kind = .function) (hx : env.kindOf x = some .globalImplicit) (hd : (x == ("__debug__" : Str)) = false := by decide) :
    wpAny M A (eval (.Name x pos) env) Q E s := by
  obtain ⟨p, loose, mg, mb, T⟩ := G.T
  exact Name_function_global hk hx (loadGlobal_builtin (env := env) (by rw [hg]; exact T.g) (mg_none_of G.X T.g e) (by rw [hb]; exact T.b) ((T.builtins x hn).trans hv) h) hd
theorem nameKE {M : Model} {x : Str} {pos : Pos} {v : Value} (G : Gd w s.heap) (e : nsIn (hd.heap_39 w.params) mainGlobals x = some (some v)) (h : Q v s)
    (hg : env.globals = mainGlobals) (hk : env.scope.kind = .function) (hx : env.kindOf x = some .globalImplicit) (hd : (x == ("__debug__" : Str)) = false := by decide) :
    wpAny M A (eval (.Name x pos) env) Q E s := by
  obtain ⟨p, loose, mg, mb, T⟩ := G.T
  exact Name_function_global hk hx (loadGlobal_global (env := env) (by rw [hg]; exact T.g) (mg_of G.X T.g e) h) hd
theorem kept_ext {h : Heap} : KeptH (Ext h) := fun h' ob x b o e => Heap.get?_push_of_some _ (x b o e)
section
variable {value slice : Expr} {x : List Nat} {t : Tok}
theorem cut_nsE {j : Int} {uj : Tok} (hj : 0 ≤ j) (hx : x.length ≤ 4096) (h : ∀ h' t' k, Ext s.heap h' → Q (.str (sx (x.take j.toNat)) t') { s with heap := h', toks := k })
    (hs : subscripted slice false (.str (sx x) t) (.ref s.heap.objs.size) = operate [.ref s.heap.objs.size, .str (sx x) t] (getItem (.str (sx x) t) (.ref s.heap.objs.size)))
    (ht : ∀ r, letTemporaryGo value (.str (sx x) t) r = pure ()) :
    wpAny (model prog w) A (subscriptTail value slice (.str (sx x) t) (.ref s.heap.objs.size)) Q E { s with heap := s.heap.push { cls := .type "slice", data := .fields #[.none, .int j uj, .none] } } :=
  tail_of_ItemOn (SBH.sliceItem_ns kept_ext Ext.rfl' (fun h' t' k K => by rw [slice_ns x j hj]; exact h h' t' k K) (by rw [sx_len, sizeLine_eq]; omega)) hs ht
theorem cut_snE {i : Int} {ui : Tok} (hi : 0 ≤ i) (hi' : i ≤ x.length) (hx : x.length ≤ 4096) (h : ∀ h' t' k, Ext s.heap h' → Q (.str (sx (x.drop i.toNat)) t') { s with heap := h', toks := k })
    (hs : subscripted slice false (.str (sx x) t) (.ref s.heap.objs.size) = operate [.ref s.heap.objs.size, .str (sx x) t] (getItem (.str (sx x) t) (.ref s.heap.objs.size)))
    (ht : ∀ r, letTemporaryGo value (.str (sx x) t) r = pure ()) :
    wpAny (model prog w) A (subscriptTail value slice (.str (sx x) t) (.ref s.heap.objs.size)) Q E { s with heap := s.heap.push { cls := .type "slice", data := .fields #[.int i ui, .none, .none] } } :=
  tail_of_ItemOn (SBH.sliceItem_sn kept_ext Ext.rfl' (fun h' t' k K => by rw [slice_sn x i hi hi']; exact h h' t' k K) (by rw [sx_len, sizeLine_eq]; omega)) hs ht
end
theorem isCell_ext {h h' : Heap} {c : Addr} {v : Option Value} (x : h.IsCell c v) (K : Ext h h') : h'.IsCell c v := let ⟨o, ho, hd⟩ := x; ⟨o, K _ _ ho, hd⟩
end
end
section
theorem get_none {h : Heap} {a : Addr} (e : h.objs.size ≤ a) : h.get? a = none := by
  cases q : h.get? a with
  | none => rfl
  | some o => exact absurd (Heap.lt_size q) (Nat.not_lt.mpr e)
section
variable {w : World} {prog : Program} {A : Around} {s : Shared} {g : Heap}
  {name qual : Str} {params : Arguments} {body : List Stmt} {scope : Scope} {dV kV doc pm cdv ct oc : Value} {an od : Option Addr} {osl : Array (Option Value)} {f : Addr} {args : List Value} {kw : List (Str × Value)} {binds : List (Str × Value)}
/-- entering a plain def, with a ledger -/
theorem enterX {R : Result → Shared → Prop} {news : List (Addr × Obj)} (hh : A.handled = none) (hsub : Ext g s.heap) (hsz : g.objs.size ≤ s.heap.objs.size) (N0 : ∀ p ∈ news, s.heap.get? p.1 = some p.2 ∧ g.get? p.1 = none) (G : Gd w s.heap) (hroom : A.depth < recursionLimit)
    (ho : (hd.heap_39 w.params).lookup f = some ⟨oc, od, .func (fnOf name qual params body scope dV kV doc pm an cdv ct), osl⟩) (hcd : codeIn (hd.heap_39 w.params) cdv qual = true)
    (hbind : BindsTo s (fnOf name qual params body scope dV kV doc pm an cdv ct) ⟨args, []⟩ binds) (hloc : ∀ y ∈ binds, scope.names.lookup y.1 = some .local)
    (hco : scope.isCoroutine = false) (hgen : scope.isGenerator = false) (hk : scope.kind = .function) (hcell : ∀ x ∈ scope.names, x.2 ≠ .cell)
    (h : ∀ L h₁ tk m fr', s.heap.objs.size ≤ L → Fr g L h₁ m → Has m binds.reverse → News g L h₁ news → Ext s.heap h₁ →
      wpAny (model prog w) (Ar (A.depth + 1) (A.units + 3) fr' A.guards) (execs body (envOf qual scope L f cdv))
        (fun fl s' => R (.ok (.ret (match fl with | .ret v => v | _ => .none))) s') (fun _ _ => False) { s with heap := h₁, toks := tk }) :
    codeAny (model prog w) A (.call (.ref f) ⟨args, []⟩) R s := by
  obtain ⟨p, loose, mg, mb, T⟩ := G.T
  obtain ⟨_, dp, fr, gd, un⟩ := A
  cases hh
  refine codeAny_call_def (fd := fnOf name qual params body scope dV kV doc pm an cdv ct) (body := body) (binds := binds) hroom (G.X _ _ ho) rfl T.nolimit (codeRec_of G.X hcd) rfl hbind hcell hloc (fun h₁ hns hk₁ => ?_) hco hgen hk
  refine wpAny_mono (h _ h₁ _ _ _ (Nat.le_refl _) ⟨hns, fun b o e => hk₁ b o (hsub _ _ e), hsz⟩ (Has.of_lookup _) (fun p hp => ⟨hk₁ _ _ (N0 p hp).1, ?_, (N0 p hp).2⟩) hk₁) (fun fl s' hl => hl) fun _ _ y => y.elim
  exact Nat.ne_of_lt (Heap.lt_size (N0 p hp).1)
/-- the same with cells -/
theorem enterCX {R : Result → Shared → Prop} {news : List (Addr × Obj)} (hh : A.handled = none) (hsub : Ext g s.heap) (hsz : g.objs.size ≤ s.heap.objs.size) (N0 : ∀ p ∈ news, s.heap.get? p.1 = some p.2 ∧ g.get? p.1 = none) (G : Gd w s.heap) (hroom : A.depth < recursionLimit)
    (ho : (hd.heap_39 w.params).lookup f = some ⟨oc, od, .func (fnOf name qual params body scope dV kV doc pm an cdv ct), osl⟩) (hcd : codeIn (hd.heap_39 w.params) cdv qual = true)
    (hbind : BindsTo s (fnOf name qual params body scope dV kV doc pm an cdv ct) ⟨args, []⟩ binds)
    (hkind : (binds.all fun y => scope.names.lookup y.1 == some .local || scope.names.lookup y.1 == some .cell) = true)
    (hnd : ((cellsFrom 0 scope.names []).map (·.1)).Nodup)
    (hco : scope.isCoroutine = false) (hgen : scope.isGenerator = false) (hk : scope.kind = .function)
    (h : ∀ L h₁ tk cells fr', s.heap.objs.size ≤ L → Fr g L h₁ (bindL (envOfC qual scope L f cdv).kindOf binds fun _ => none) → News g L h₁ (cells ++ news) →
      CellsAre (bindC (envOfC qual scope L f cdv).kindOf binds fun _ => none) (cellsFrom (L + 1) scope.names []) cells → Ext s.heap h₁ →
      wpAny (model prog w) (Ar (A.depth + 1) (A.units + 3) fr' A.guards) (execs body (envOfC qual scope L f cdv))
        (fun fl s' => R (.ok (.ret (match fl with | .ret v => v | _ => .none))) s') (fun _ _ => False) { s with heap := h₁, toks := tk }) :
    codeAny (model prog w) A (.call (.ref f) ⟨args, []⟩) R s := by
  obtain ⟨p, loose, mg, mb, T⟩ := G.T
  obtain ⟨_, dp, fr, gd, un⟩ := A
  cases hh
  refine codeAny_call_function hroom (G.X _ _ ho) rfl hco hgen rfl (codeRec_of G.X hcd) (hbind _ _ _ _ ?_)
  refine wpAny_newFunctionEnv_cells hk (kindsX hkind _) fun env' he s' x => ?_
  subst he
  refine ⟨T.nolimit.keeps x.toInCall.keep, codeAny_func ?_⟩
  obtain ⟨h₁, tk, rfl, _⟩ := x.done
  have hk₁ := x.toInCall.keep
  obtain ⟨cells, NC, Y⟩ := Cl.news (h₀ := s.heap) (Nat.le_refl _) fun n c hm => ⟨x.cell n c (lookup_of_mem_nodup (cellsFrom_names scope.names 0 (s.heap.objs.size + 1) [] [] rfl ▸ hnd) hm), x.above n c hm⟩
  refine wpAny_mono (h _ h₁ tk cells _ (Nat.le_refl _) ⟨x.toInCall.ns, fun b o e => hk₁ b o (hsub _ _ e), hsz⟩ (fun p hp => ?_) Y hk₁) (fun fl s' hl => hl) fun _ _ y => y.elim
  rcases List.mem_append.mp hp with hp | hp
  · refine ⟨(NC p hp).1, (NC p hp).2.1, ?_⟩
    cases q : g.get? p.1 with
    | none => rfl
    | some o => have := hsub _ _ q; rw [(NC p hp).2.2] at this; cases this
  · exact ⟨hk₁ _ _ (N0 p hp).1, Nat.ne_of_lt (Heap.lt_size (N0 p hp).1), (N0 p hp).2⟩
theorem under_make (dp un : Nat) (fr : Option (List Env)) (gd : Option (List Code)) (C : Addr) (rest : List Value) : ((Ar dp un fr gd).under (.builtin "type.__call__" ⟨.ref C :: rest, []⟩)).handled = none ∧ ((Ar dp un fr gd).under (.builtin "type.__call__" ⟨.ref C :: rest, []⟩)).depth = dp + 1 ∧
    ((Ar dp un fr gd).under (.builtin "type.__call__" ⟨.ref C :: rest, []⟩)).units ≤ un + 9 := by
  refine ⟨rfl, rfl, ?_⟩
  show un + _ ≤ _
  exact Nat.add_le_add_left (by show Code.cUnits _ ≤ 9; first | exact Nat.le_of_ble_eq_true rfl | simp [Code.cUnits]) _
end

end
section
local macro_rules | `(tactic| k_units) => `(tactic| omega)
local macro_rules | `(tactic| k_room) => `(tactic| (simp only [recursionLimit] at *; omega))
local macro_rules | `(tactic| walk_at "eval Name") => `(tactic| (k_here; k_dflt (refine' Mine.nameH ?F ?H ?v ?_ ?a ?b ?c; (case F => k_asm); (case H => k_asm); (case a => rfl); (case b => rfl); (case c => decide); (case v => with_unfolding_all rfl); k_whole)))
local macro_rules | `(tactic| walk_at "loadName") => `(tactic| (k_here; k_dflt (refine' Mine.loadH ?F ?H ?v ?_ ?a ?b; (case F => k_asm); (case H => k_asm); (case a => rfl); (case b => rfl); (case v => with_unfolding_all rfl); k_whole)))
local macro_rules | `(tactic| walk_at "storeName") => `(tactic| (k_here; k_dflt (refine' Mine.storeH ?F ?N ?H ?_ ?a ?b; (case F => k_asm); (case N => k_asm); (case H => k_asm); (case a => rfl); (case b => rfl); k_whole; intro h' m' F' N' H'; (try k_sweep))))
local macro_rules | `(tactic| walk_at "call builtin:len") => `(tactic| (k_here; (with_reducible show wpAny _ _ (call (Value.builtin "len") [Value.ref _]) _ _ _); k_dflt (refine' Mine.len_made ?N ?m ?z ?_; (case N => k_asm); (case m => k_mem); (case z => first | decide | (simp only [List.size_toArray, List.length_cons, List.length_nil]; omega)); k_whole; intro t' tk')))
local macro_rules | `(tactic| walk_at "subscriptTail") => `(tactic| (k_here; (with_reducible show wpAny _ _ (subscriptTail _ _ (Value.ref _) (Value.int _ _)) _ _ _); k_dflt (refine' Mine.item_made ?N ?m ?a ?b ?c ?_ ?d; (case N => k_asm); (case m => k_mem); (case a => first | decide | omega); (case b => first | decide | omega); (case c => rfl); (case d => with_unfolding_all rfl); k_whole)))
local macro_rules | `(tactic| walk_at "delItem") => `(tactic| (k_here; k_dflt (refine' Mine.del_made ?F ?N ?U ?a ?b ?c ?_; (case F => k_asm); (case N => k_asm); (case U => k_upd); (case a => decide); (case b => rfl); (case c => decide); k_whole; intro h' F' N'; (try dsimp only [List.eraseIdx, Array.toList, List.toArray] at N'); (try k_sweep))))
local macro_rules | `(tactic| walk_at "exec For") => `(tactic| (k_here; k_dflt (refine' wpAny_For ?_ ?hs; (case hs => intro _; with_unfolding_all rfl); k_whole)))
local macro_rules | `(tactic| walk_at "exec For Name Call cons nil") => `(tactic| (k_here; k_dflt (refine' wpAny_For ?_ ?hs; (case hs => intro _; with_unfolding_all rfl); k_whole)))
local macro_rules | `(tactic| walk_at "exec For Name Name cons nil") => `(tactic| (k_here; k_dflt (refine' wpAny_For ?_ ?hs; (case hs => intro _; with_unfolding_all rfl); k_whole)))
local macro_rules | `(tactic| walk_at "exec For Name Tuple cons nil") => `(tactic| (k_here; k_dflt (refine' wpAny_For ?_ ?hs; (case hs => intro _; with_unfolding_all rfl); k_whole)))
local macro_rules | `(tactic| walk_at "subscriptTail Name Constant ref int") => `(tactic| (k_here; k_dflt (refine' Mine.item_old ?F ?l ?a ?b ?c ?_ ?d; (case F => k_asm); (case l => assumption); (case a => first | decide | omega); (case b => first | decide | omega); (case c => rfl); (case d => with_unfolding_all rfl); k_whole)))
local macro_rules | `(tactic| walk_at "call builtin:str.find") => `(tactic| (k_here; (with_reducible show wpAny _ _ (call (Value.builtin "str.find") [Value.str _ _, Value.str _ _, Value.int _ _, Value.int _ _]) _ _ _); k_dflt (refine' Mine.find4e ?a ?b ?c ?d ?_; (case a => rfl); (case b => first | decide | omega); (case c => omega); (case d => first | omega | (simp only [Mine.sx_len] at *; omega)); k_whole; intro t' tk')))
local macro_rules | `(tactic| walk_at "call builtin:len") => `(tactic| (k_here; (with_reducible show wpAny _ _ (call (Value.builtin "len") [Value.str (Mine.sx _) _]) _ _ _); (refine Mine.len_sx ?a ?_; (case a => first | omega | (simp; done) | (simp; omega))); intro t' tk'))
local macro_rules | `(tactic| walk_at "truthy str") => `(tactic| (k_here; (with_reducible show wpAny _ _ (truthy (Value.str (Mine.sx _) _)) _ _ _); (refine Mine.truthy_sx ?a ?_; (case a => first | omega | (simp; done) | (simp; omega))); intro tk'))
local macro_rules | `(tactic| walk_at "truthy") => `(tactic| (k_here; (with_reducible show wpAny _ _ (truthy (Value.str (Mine.sx _) _)) _ _ _); (refine Mine.truthy_sx ?a ?_; (case a => first | omega | (simp; done) | (simp; omega))); intro tk'))
local macro_rules | `(tactic| walk_at "pyIter ref") => `(tactic| (k_here; refine Mine.Stop.out ?_))
local macro_rules | `(tactic| walk_at "subscriptTail Name Slice str ref") => `(tactic| (k_here; (with_reducible show wpAny _ _ (subscriptTail _ (Expr.Slice none (some _) none _) (Value.str (Mine.sx _) _) (Value.ref _)) _ _ _); (with_reducible rename Fr _ _ _ _ => F'); (with_reducible rename News _ _ _ _ => N'); (refine Mine.cut_ns (s := ⟨_, _, _, _, _⟩) F' N' ?a ?b ?_ ?hs ?ht); (case a => first | omega | (simp only [List.length_drop, List.length_take, List.length_append]; omega)); (case b => first | omega | (simp only [List.length_drop, List.length_take, List.length_append]; omega)); (case hs => with_unfolding_all rfl); (case ht => intro _; with_unfolding_all rfl); intro h' t' k' F' N'; (try k_sweep)))
local macro_rules | `(tactic| walk_at "subscriptTail Name Slice str ref") => `(tactic| (k_here; (with_reducible show wpAny _ _ (subscriptTail _ (Expr.Slice (some _) none none _) (Value.str (Mine.sx _) _) (Value.ref _)) _ _ _); (with_reducible rename Fr _ _ _ _ => F'); (with_reducible rename News _ _ _ _ => N'); (refine Mine.cut_sn (s := ⟨_, _, _, _, _⟩) F' N' ?a ?b ?c ?_ ?hs ?ht); (case a => first | omega | (simp only [List.length_drop, List.length_take, List.length_append]; omega)); (case b => first | omega | (simp only [List.length_drop, List.length_take, List.length_append]; omega)); (case c => first | omega | (simp only [List.length_drop, List.length_take, List.length_append]; omega)); (case hs => with_unfolding_all rfl); (case ht => intro _; with_unfolding_all rfl); intro h' t' k' F' N'; (try k_sweep)))
local macro_rules | `(tactic| walk_at "subscriptTail Name Slice str ref") => `(tactic| (k_here; (with_reducible show wpAny _ _ (subscriptTail _ (Expr.Slice (some _) (some _) none _) (Value.str (Mine.sx _) _) (Value.ref _)) _ _ _); (with_reducible rename Fr _ _ _ _ => F'); (with_reducible rename News _ _ _ _ => N'); (refine Mine.cut_ss (s := ⟨_, _, _, _, _⟩) F' N' ?a ?b ?c ?d ?_ ?hs ?ht); (case a => first | omega | (simp only [List.length_drop, List.length_take, List.length_append]; omega)); (case b => first | omega | (simp only [List.length_drop, List.length_take, List.length_append]; omega)); (case c => first | omega | (simp only [List.length_drop, List.length_take, List.length_append]; omega)); (case d => first | omega | (simp only [List.length_drop, List.length_take, List.length_append]; omega)); (case hs => with_unfolding_all rfl); (case ht => intro _; with_unfolding_all rfl); intro h' t' k' F' N'; (try k_sweep)))
local macro_rules | `(tactic| walk_at "subscriptTail Name Slice str ref") => `(tactic| (k_here; (with_reducible show wpAny _ _ (subscriptTail _ (Expr.Slice (some _) (some _) none _) (Value.str (Mine.sx _) _) (Value.ref _)) _ _ _); (with_reducible rename Fr _ _ _ _ => F'); (with_reducible rename News _ _ _ _ => N'); (refine Mine.cut_1m1 (s := ⟨_, _, _, _, _⟩) F' N' ?a ?b ?_ ?hs ?ht); (case a => first | omega | (simp only [List.length_drop, List.length_take, List.length_append]; omega)); (case b => first | omega | (simp only [List.length_drop, List.length_take, List.length_append]; omega)); (case hs => with_unfolding_all rfl); (case ht => intro _; with_unfolding_all rfl); intro h' t' k' F' N'; (try k_sweep)))
local macro_rules | `(tactic| walk_at "subscriptTail Call") => `(tactic| (k_here; (with_reducible show wpAny _ _ (subscriptTail _ (Expr.Slice none (some _) none _) (Value.str (Mine.sx _) _) (Value.ref _)) _ _ _); (with_reducible rename Fr _ _ _ _ => F'); (with_reducible rename News _ _ _ _ => N'); (refine Mine.cut_ns (s := ⟨_, _, _, _, _⟩) F' N' ?a ?b ?_ ?hs ?ht); (case a => first | omega | (simp only [List.length_drop, List.length_take, List.length_append]; omega)); (case b => first | omega | (simp only [List.length_drop, List.length_take, List.length_append]; omega)); (case hs => with_unfolding_all rfl); (case ht => intro _; with_unfolding_all rfl); intro h' t' k' F' N'; (try k_sweep)))
local macro_rules | `(tactic| walk_at "subscriptTail Call") => `(tactic| (k_here; (with_reducible show wpAny _ _ (subscriptTail _ (Expr.Slice (some _) none none _) (Value.str (Mine.sx _) _) (Value.ref _)) _ _ _); (with_reducible rename Fr _ _ _ _ => F'); (with_reducible rename News _ _ _ _ => N'); (refine Mine.cut_sn (s := ⟨_, _, _, _, _⟩) F' N' ?a ?b ?c ?_ ?hs ?ht); (case a => first | omega | (simp only [List.length_drop, List.length_take, List.length_append]; omega)); (case b => first | omega | (simp only [List.length_drop, List.length_take, List.length_append]; omega)); (case c => first | omega | (simp only [List.length_drop, List.length_take, List.length_append]; omega)); (case hs => with_unfolding_all rfl); (case ht => intro _; with_unfolding_all rfl); intro h' t' k' F' N'; (try k_sweep)))
local macro_rules | `(tactic| walk_at "subscriptTail Call") => `(tactic| (k_here; (with_reducible show wpAny _ _ (subscriptTail _ (Expr.Slice (some _) (some _) none _) (Value.str (Mine.sx _) _) (Value.ref _)) _ _ _); (with_reducible rename Fr _ _ _ _ => F'); (with_reducible rename News _ _ _ _ => N'); (refine Mine.cut_ss (s := ⟨_, _, _, _, _⟩) F' N' ?a ?b ?c ?d ?_ ?hs ?ht); (case a => first | omega | (simp only [List.length_drop, List.length_take, List.length_append]; omega)); (case b => first | omega | (simp only [List.length_drop, List.length_take, List.length_append]; omega)); (case c => first | omega | (simp only [List.length_drop, List.length_take, List.length_append]; omega)); (case d => first | omega | (simp only [List.length_drop, List.length_take, List.length_append]; omega)); (case hs => with_unfolding_all rfl); (case ht => intro _; with_unfolding_all rfl); intro h' t' k' F' N'; (try k_sweep)))
local macro_rules | `(tactic| walk_at "subscriptTail Call") => `(tactic| (k_here; (with_reducible show wpAny _ _ (subscriptTail _ (Expr.Slice (some _) (some _) none _) (Value.str (Mine.sx _) _) (Value.ref _)) _ _ _); (with_reducible rename Fr _ _ _ _ => F'); (with_reducible rename News _ _ _ _ => N'); (refine Mine.cut_1m1 (s := ⟨_, _, _, _, _⟩) F' N' ?a ?b ?_ ?hs ?ht); (case a => first | omega | (simp only [List.length_drop, List.length_take, List.length_append]; omega)); (case b => first | omega | (simp only [List.length_drop, List.length_take, List.length_append]; omega)); (case hs => with_unfolding_all rfl); (case ht => intro _; with_unfolding_all rfl); intro h' t' k' F' N'; (try k_sweep)))
local macro_rules | `(tactic| walk_at "compareOp Eq str str") => `(tactic| (k_here; (with_reducible show wpAny _ _ (compareOp CmpOp.Eq (Value.str (Mine.sx _) _) (Value.str (Mine.sx _) _)) _ _ _); (refine Mine.eq_sxK ?_)))
local macro_rules | `(tactic| walk_at "binaryOp Add str str") => `(tactic| (k_here; (with_reducible show wpAny _ _ (binaryOp Operator.Add (Value.str (Mine.sx _) _) (Value.str (Mine.sx _) _)) _ _ _); (refine Mine.add_sxK ?a ?_; (case a => first | omega | (simp only [List.length_drop, List.length_take, List.length_append]; omega))); intro t' tk'))
local macro_rules | `(tactic| walk_at "eval ListComp") => `(tactic| (k_here; first | k_dflt (refine' Mine.compSrcM ?M ?cl ?ce ?ki ?na ?xx ?hs ?_; (case M => assumption); (case cl => with_unfolding_all rfl); (case ce => decide); (case ki => rfl); (case na => decide); (case xx => rfl); (case hs => intro _; with_unfolding_all rfl); k_whole) | refine Mine.Stop.out ?_))
local macro_rules | `(tactic| k_in) => `(tactic| exact Frag.In.keeps (by with_reducible assumption) (Fr.keep (by with_reducible assumption)))
section
theorem pfx_len {x y : List Nat} (h : y.take x.length = x) : x.length ≤ y.length := by
  have := congrArg List.length h
  rw [List.length_take] at this
  omega
set_option maxHeartbeats 8000000 in
theorem c_ellipsis (w : World) (x y : List Nat) (tx ty : Tok) (hx : x.length ≤ 12) (hy : y.length ≤ 12) (hd : 46 ∉ x)
   (dp un : Nat) (fr : Option (List Env)) (gd : Option (List Code)) (s : Shared) (Q E : Value → Shared → Prop)
   (G : Gd w s.heap) (hdp : dp + 5 < 1000) (hun : un + 100 < 9900)
   (ret : ∀ h' tk', Ext s.heap h' → Q (.bool (decide (y.take x.length = x))) { s with heap := h', toks := tk' }) :
   wpAny (model PySem.Challenge.rw_sw0018_01.row.prog w) (Ar dp un fr gd) (call (.ref 77) [.str (sx x ++ "...") tx, .str (sx y) ty]) Q E s := by
  have hsp : Txt.split (sx x ++ "...") "..." = [sx x, sx []] := split_dots x hd
  have hin : (Builtin.Str.occurrences (sx x ++ "...") "..." 0 (sx x ++ "...").length 1).isEmpty = false := by rw [occ_dots x hd 1 (Nat.le_refl _)]; rfl
  have hlen := len_dots x
  have hst := starts_eq x y
  rw [← hst] at ret
  w_on
  have KX := G.X
  obtain ⟨p, loose, mg, mb, T⟩ := G.T
  revert KX
  k_fill
  intro KX
  refine' enterG (binds := [("want", .str (sx x ++ "...") tx), ("got", .str (sx y) ty)]) (fun _ _ e => e) (Nat.le_refl _) G ?room ?ho ?hcd ?hb ?hl ?k1 ?k2 ?k3 ?k4 ?_
  case room => simp only [recursionLimit]; omega
  case ho => k_is
  case hcd => k_is
  case hb => exact BindsTo.of_eq rfl
  case hl => exact locs rfl
  case k1 => exact rfl
  case k2 => exact rfl
  case k3 => exact rfl
  case k4 => decide
  intro L h₁ tk m fr' hL F H K1
  have N : News s.heap L h₁ [] := News.nil
  dsimp only [List.reverse, List.reverseAux] at H

  (try k_unmd)
  k_fold
  k_with "call builtin:str.split" => (refine' Mine.split2 ?F ?N dots_ne hsp ?_ ?z; (case F => k_asm); (case N => k_asm); (case z => rw [sizeLine_eq, Mine.len_dots]; omega); intro l' h' tk' ta' tb' F' N' l1; (try k_lt l1); (try k_sweep))
  k_steps
  · -- the loop, an empty x
    have hx0 : x = [] := by
      rename x.isEmpty = true => q
      exact List.isEmpty_iff.mp q
    subst hx0
    rename Fr _ _ _ _ => F9
    rename News _ _ _ _ => N9
    rename Has _ _ => H9
    refine Stop.mk ?_
    refine iterMade (its := #[.str (sx []) _, .str (sx []) _]) (ep := 0) (fun i m nw => ∃ t1 t2, Has m [("got", .str (sx y) ty), ("startpos", .int 0 t1), ("endpos", .int y.length t2)] ∧ (_, listOf #[.str (sx []) _, .str (sx []) _] 0) ∈ nw) rfl rfl rfl F9 N9
      (fun _ _ _ h => h.choose_spec.choose_spec.2) ⟨_, _, H9.sub ⟨rfl, rfl, rfl, trivial⟩, by k_mem⟩ ?_ ?_
    · intro i v m₁ news₁ I h tk o hv hJ hne F N
      obtain ⟨t1, t2, H, hm⟩ := hJ
      have : ∃ t, v = .str (sx []) t := by
        rcases i with _ | _ | i
        · exact ⟨_, (Option.some.inj hv).symm⟩
        · exact ⟨_, (Option.some.inj hv).symm⟩
        · simp at hv
      obtain ⟨t, rfl⟩ := this
      replace H := H.put "w" (.str (sx []) t)
      k_steps
      rename Fr _ _ _ _ => F9
      rename News _ _ _ _ => N9
      rename Has _ _ => H9
      exact ⟨_, _, _, _, rfl, F9, N9, by k_mem, _, fun p hp => by first | exact hp | exact .tail _ hp | exact .tail _ (.tail _ hp) | exact .tail _ (.tail _ (.tail _ hp)), hne, _, _, H9.sub ⟨rfl, rfl, rfl, trivial⟩, hm⟩
    · intro m₁ news₁ h tk hJ F N
      obtain ⟨t1, t2, H, hm⟩ := hJ
      k_steps
      dsimp only
      repeat (k_unfold; try dsimp only)
      rename Fr _ _ _ _ => F9
      have e : Txt.startswith (sx y) (sx []) = true := by rw [hst]; simp
      rw [e] at ret
      exact ret _ _ F9.keep
  · exfalso
    rename Txt.startswith (sx y) (sx x) = true => q
    rw [hst] at q
    have := pfx_len (of_decide_eq_true q)
    omega
  · -- the loop, x taken off
    rename Txt.startswith (sx y) (sx x) = true => q
    have hle : x.length ≤ y.length := pfx_len (of_decide_eq_true (hst ▸ q))
    rename Fr _ _ _ _ => F9
    rename News _ _ _ _ => N9
    rename Has _ _ => H9
    refine Stop.mk ?_
    refine iterMade (its := #[.str (sx []) _]) (ep := 1) (fun i m nw => ∃ t1 t2, Has m [("got", .str (sx y) ty), ("startpos", .int x.length t1), ("endpos", .int y.length t2)] ∧ (_, listOf #[.str (sx []) _] 1) ∈ nw) rfl rfl rfl F9 N9
      (fun _ _ _ h => h.choose_spec.choose_spec.2) ⟨_, _, H9.sub ⟨rfl, rfl, rfl, trivial⟩, by k_mem⟩ ?_ ?_
    · intro i v m₁ news₁ I h tk o hv hJ hne F N
      obtain ⟨t1, t2, H, hm⟩ := hJ
      have : ∃ t, v = .str (sx []) t := by
        rcases i with _ | i
        · exact ⟨_, (Option.some.inj hv).symm⟩
        · simp at hv
      obtain ⟨t, rfl⟩ := this
      replace H := H.put "w" (.str (sx []) t)
      k_steps
      rename Fr _ _ _ _ => F9
      rename News _ _ _ _ => N9
      rename Has _ _ => H9
      exact ⟨_, _, _, _, rfl, F9, N9, by k_mem, _, fun p hp => by first | exact hp | exact .tail _ hp | exact .tail _ (.tail _ hp) | exact .tail _ (.tail _ (.tail _ hp)), hne, _, _, H9.sub ⟨rfl, rfl, rfl, trivial⟩, hm⟩
    · intro m₁ news₁ h tk hJ F N
      obtain ⟨t1, t2, H, hm⟩ := hJ
      k_steps
      dsimp only
      repeat (k_unfold; try dsimp only)
      rename Fr _ _ _ _ => F9
      rw [q] at ret
      exact ret _ _ F9.keep
  · rename Txt.startswith (sx y) (sx x) = false => q
    dsimp only
    repeat (k_unfold; try dsimp only)
    rename Fr _ _ _ _ => F9
    rw [q] at ret
    exact ret _ _ F9.keep

end
section
noncomputable def shiftsI (x : List Nat) : List Int := ((List.range (x.length - 1)).map fun i => (1 : Int) + (i : Nat)).filter fun k : Int => decide (x.drop k.toNat = x.take (x.length - k.toNat))
theorem small_nat (a b : Int) (ha : 0 ≤ a ∧ a ≤ 4096) (hb : 0 ≤ b ∧ b ≤ 4096) : Builtin.Range.small a b 1 = true := by
  exact small_one (by omega) (by omega) (by omega) (by omega)
theorem size_nat (a b : Nat) : Builtin.Range.rangeSize (a : Int) (b : Int) 1 = ((b - a : Nat) : Int) := by
  rw [rangeSize_nat]; omega
set_option maxHeartbeats 8000000 in
theorem c_shifts (w : World) (x : List Nat) (tx : Tok) (hx : x.length ≤ 12)
   (dp un : Nat) (fr : Option (List Env)) (gd : Option (List Code)) (s : Shared) (Q E : Value → Shared → Prop)
   (G : Gd w s.heap) (hdp : dp + 5 < 1000) (hun : un + 100 < 9900)
   (ret : ∀ D ys k h' tk', Ext s.heap h' → s.heap.get? D = none → h'.get? D = some (listOf ys k) → IntsAre ys.toList (shiftsI x) → Q (.ref D) { s with heap := h', toks := tk' }) :
   wpAny (model PySem.Challenge.rw_sw0018_01.row.prog w) (Ar dp un fr gd) (call (.ref 138) [.str (sx x) tx]) Q E s := by
  w_on
  have KX := G.X
  obtain ⟨p, loose, mg, mb, T⟩ := G.T
  revert KX
  k_fill
  intro KX
  refine' enterC (binds := [("word", .str (sx x) tx)]) (fun _ _ e => e) (Nat.le_refl _) G ?room ?ho ?hcd ?hb ?hkind ?hnd ?k1 ?k2 ?k3 ?_
  case room => simp only [recursionLimit]; omega
  case ho => k_is
  case hcd => k_is
  case hb => exact BindsTo.of_eq rfl
  case hkind => exact rfl
  case hnd => decide +kernel
  case k1 => exact rfl
  case k2 => exact rfl
  case k3 => exact rfl
  intro L h₁ tk cells fr' hL F N Y K1
  k_cells Y
  (try k_unmd)
  k_fold
  have cm : CompMark [("word", L + 1)] (fun v => match v with | .int k _ => decide (x.drop k.toNat = x.take (x.length - k.toNat)) | _ => false) (fun v y => y = v) := trivial
  k_steps
  rename Fr _ _ _ _ => F9
  rename News _ _ _ _ => N9
  rename IsRange _ _ _ _ _ _ _ _ => R9
  have hK9 : Ext s.heap _ := F9.keep
  refine Stop.mk ?_
  refine compRange (n := x.length - 1) (p := fun k => decide (x.drop k.toNat = x.take (x.length - k.toNat))) rfl R9 ?small ?size (by omega) ?q F9 N9 ?ret
  case small => exact small_nat _ _ (by omega) (by omega)
  case size => exact size_nat 1 x.length
  case ret =>
    intro D ys k h' tk' F' N' hne hI K hD
    repeat (k_unfold; try dsimp only)
    refine ret D ys k h' tk' F'.keep ?_ (N'.get (.head _)) hI
    cases e : s.heap.get? D with
    | none => rfl
    | some o => rw [F9.keep _ _ e] at hD; cases hD
  case q =>
    constructor
    · rintro C v s₃ m₃ E' Qb hC ⟨k, t, rfl, hk1, hk2⟩ hns hm hK hQ
      have G₃ : Gd w s₃.heap := G.keeps (hK9.trans hK)
      have hcell : s₃.heap.IsCell (L + 1) (some (.str (sx x) tx)) := ⟨_, hK _ _ (N9.get (.head _)), by assumption⟩
      refine wpAny_tests_one (wpAny_isTrue_Compare1 (Subscript_ (ldCellK (c := L + 1) rfl hcell ?_ rfl rfl)))
      refine wpAny_Slice (evalPart_some_step (ldVarK hns hm (evalPart_none_step (evalPart_none_step (cut_snE (by omega) (by omega) (by omega) (fun h' t' k' K => ?_) (by with_unfolding_all rfl) (by intro _; with_unfolding_all rfl)))) rfl rfl))
      refine Subscript_ (ldCellK (c := L + 1) rfl (isCell_ext hcell K) ?_ rfl rfl)
      refine wpAny_Slice (evalPart_none_step (evalPart_some_step (wpAny_BinOp (Call_ (nameBE (G₃.keeps K) (by k_dflt k_is) (by boot_by_name) (by decide) ?_ rfl rfl rfl rfl)))))
      refine Calls.callWith_builtin rfl (Calls.evalArgs_plain (Calls.spliced_cons (ldCellK (c := L + 1) rfl (isCell_ext hcell K) (Calls.spliced_nil ?_) rfl rfl)))
      refine len_sx (by omega) fun t₁ tk₁ => ?_
      refine ldVarK (hns.keeps K) hm ?_ rfl rfl
      refine sub_int (evalPart_none_step (cut_nsE (by omega) (by omega) (fun h₂ t₂ k₂ K₂ => ?_) (by with_unfolding_all rfl) (by intro _; with_unfolding_all rfl)))
      refine eq_sxK (wpAny_truthy_bool ?_)
      have e : ((x.length : Int) - k).toNat = x.length - k.toNat := by omega
      rw [e]
      exact hQ _ _ (K.trans K₂)
    · rintro C v s₃ m₃ E' Qv hC ⟨k, t, rfl, hk1, hk2⟩ hp hns hm hK hQ
      exact ldVarK hns hm (hQ _ _ _ rfl Ext.rfl') rfl rfl

end
section
theorem bitOr_pow (a : Int) (p : Nat) (ha : 0 ≤ a) (hb : a < 2 ^ p) : Builtin.bitOr a (2 ^ p) = a + 2 ^ p := by
  rw [bitOr_and, kbt_bit, Int.ediv_eq_zero_of_lt ha hb]
  simp
theorem foldl_app (l : List (Array Nat)) : ∀ a : Array Nat, (l.foldl (· ++ ·) a).toList = a.toList ++ (l.map Array.toList).flatten := by
  induction l with
  | nil => intro a; simp
  | cons b r ih => intro a; rw [List.foldl_cons, ih]; simp
theorem mul_sx (x : List Nat) (n : Int) : Txt.mul (sx x) n = sx (List.replicate n.toNat x).flatten := by
  unfold Txt.mul
  split
  · have : n.toNat = 0 := by omega
    rw [this]; rfl
  · split
    · rename_i h
      rw [Bool.or_eq_true] at h
      rcases h with h | h
      · have : n.toNat = 1 := by have := eq_of_beq h; omega
        rw [this]; simp
      · have hx : x = [] := by
          have := eq_of_beq h
          rw [sx_len] at this
          exact List.length_eq_zero_iff.mp this
        subst hx
        have : (List.replicate n.toNat ([] : List Nat)).flatten = [] := by simp
        rw [this]
    · refine eq_sx ?_
      rw [foldl_app]
      simp
section
variable (w : World) (dp un : Nat) (fr : Option (List Env)) (gd : Option (List Code)) (s : Shared) (Q E : Value → Shared → Prop)
set_option maxHeartbeats 8000000 in
theorem c_add (a b : Str) (ta tb : Tok) (ha : a.length + b.length ≤ 4096)
   (G : Gd w s.heap) (hdp : dp + 5 < 1000) (hun : un + 100 < 9900)
   (ret : ∀ h' t' tk', Ext s.heap h' → Q (.str (a ++ b) t') { s with heap := h', toks := tk' }) :
   wpAny (model PySem.Challenge.rw_sw0018_01.row.prog w) (Ar dp un fr gd) (call (.ref 21) [.str a ta, .str b tb]) Q E s := by
  w_on
  have KX := G.X
  obtain ⟨p, loose, mg, mb, T⟩ := G.T
  revert KX
  k_fill
  intro KX
  refine' enterG (binds := [("a", .str a ta), ("b", .str b tb)]) (fun _ _ e => e) (Nat.le_refl _) G ?room ?ho ?hcd ?hb ?hl ?k1 ?k2 ?k3 ?k4 ?_
  case room => simp only [recursionLimit]; omega
  case ho => k_is
  case hcd => k_is
  case hb => exact BindsTo.of_eq rfl
  case hl => exact locs rfl
  case k1 => exact rfl
  case k2 => exact rfl
  case k3 => exact rfl
  case k4 => decide
  intro L h₁ tk m fr' hL F H K1
  have N : News s.heap L h₁ [] := News.nil
  dsimp only [List.reverse, List.reverseAux] at H

  (try k_unmd)
  k_fold
  k_steps
  dsimp only
  repeat (k_unfold; try dsimp only)
  rename Fr _ _ _ _ => F9
  exact ret _ _ _ F9.keep
set_option maxHeartbeats 8000000 in
theorem c_floordiv (a b : Int) (ta tb : Tok) (ha : 0 ≤ a ∧ a ≤ 64) (hb : 0 < b ∧ b ≤ 64)
   (G : Gd w s.heap) (hdp : dp + 5 < 1000) (hun : un + 100 < 9900)
   (ret : ∀ h' t' tk', Ext s.heap h' → Q (.int (a / b) t') { s with heap := h', toks := tk' }) :
   wpAny (model PySem.Challenge.rw_sw0018_01.row.prog w) (Ar dp un fr gd) (call (.ref 28) [.int a ta, .int b tb]) Q E s := by
  w_on
  have KX := G.X
  obtain ⟨p, loose, mg, mb, T⟩ := G.T
  revert KX
  k_fill
  intro KX
  refine' enterG (binds := [("a", .int a ta), ("b", .int b tb)]) (fun _ _ e => e) (Nat.le_refl _) G ?room ?ho ?hcd ?hb ?hl ?k1 ?k2 ?k3 ?k4 ?_
  case room => simp only [recursionLimit]; omega
  case ho => k_is
  case hcd => k_is
  case hb => exact BindsTo.of_eq rfl
  case hl => exact locs rfl
  case k1 => exact rfl
  case k2 => exact rfl
  case k3 => exact rfl
  case k4 => decide
  intro L h₁ tk m fr' hL F H K1
  have N : News s.heap L h₁ [] := News.nil
  dsimp only [List.reverse, List.reverseAux] at H

  (try k_unmd)
  k_fold
  k_steps
  dsimp only
  repeat (k_unfold; try dsimp only)
  rename Fr _ _ _ _ => F9
  rw [Int.fdiv_eq_ediv_of_nonneg _ (by omega)]
  exact ret _ _ _ F9.keep
set_option maxHeartbeats 8000000 in
theorem c_lshift (b : Int) (ta tb : Tok) (hb : 0 ≤ b ∧ b ≤ 12)
   (G : Gd w s.heap) (hdp : dp + 5 < 1000) (hun : un + 100 < 9900)
   (ret : ∀ h' t' tk', Ext s.heap h' → Q (.int (2 ^ b.toNat) t') { s with heap := h', toks := tk' }) :
   wpAny (model PySem.Challenge.rw_sw0018_01.row.prog w) (Ar dp un fr gd) (call (.ref 35) [.int 1 ta, .int b tb]) Q E s := by
  w_on
  have KX := G.X
  obtain ⟨p, loose, mg, mb, T⟩ := G.T
  revert KX
  k_fill
  intro KX
  refine' enterG (binds := [("a", .int 1 ta), ("b", .int b tb)]) (fun _ _ e => e) (Nat.le_refl _) G ?room ?ho ?hcd ?hb ?hl ?k1 ?k2 ?k3 ?k4 ?_
  case room => simp only [recursionLimit]; omega
  case ho => k_is
  case hcd => k_is
  case hb => exact BindsTo.of_eq rfl
  case hl => exact locs rfl
  case k1 => exact rfl
  case k2 => exact rfl
  case k3 => exact rfl
  case k4 => decide
  intro L h₁ tk m fr' hL F H K1
  have N : News s.heap L h₁ [] := News.nil
  dsimp only [List.reverse, List.reverseAux] at H

  (try k_unmd)
  k_fold
  k_steps
  dsimp only
  repeat (k_unfold; try dsimp only)
  rename Fr _ _ _ _ => F9
  rw [Int.one_mul]
  exact ret _ _ _ F9.keep
set_option maxHeartbeats 8000000 in
theorem c_mod (a b : Int) (ta tb : Tok) (ha : 0 ≤ a ∧ a ≤ 64) (hb : 0 < b ∧ b ≤ 64)
   (G : Gd w s.heap) (hdp : dp + 5 < 1000) (hun : un + 100 < 9900)
   (ret : ∀ h' t' tk', Ext s.heap h' → Q (.int (a % b) t') { s with heap := h', toks := tk' }) :
   wpAny (model PySem.Challenge.rw_sw0018_01.row.prog w) (Ar dp un fr gd) (call (.ref 42) [.int a ta, .int b tb]) Q E s := by
  w_on
  have KX := G.X
  obtain ⟨p, loose, mg, mb, T⟩ := G.T
  revert KX
  k_fill
  intro KX
  refine' enterG (binds := [("a", .int a ta), ("b", .int b tb)]) (fun _ _ e => e) (Nat.le_refl _) G ?room ?ho ?hcd ?hb ?hl ?k1 ?k2 ?k3 ?k4 ?_
  case room => simp only [recursionLimit]; omega
  case ho => k_is
  case hcd => k_is
  case hb => exact BindsTo.of_eq rfl
  case hl => exact locs rfl
  case k1 => exact rfl
  case k2 => exact rfl
  case k3 => exact rfl
  case k4 => decide
  intro L h₁ tk m fr' hL F H K1
  have N : News s.heap L h₁ [] := News.nil
  dsimp only [List.reverse, List.reverseAux] at H

  (try k_unmd)
  k_fold
  k_steps
  dsimp only
  repeat (k_unfold; try dsimp only)
  rename Fr _ _ _ _ => F9
  rw [Int.fmod_eq_emod_of_nonneg _ (by omega)]
  exact ret _ _ _ F9.keep
set_option maxHeartbeats 8000000 in
theorem c_mulS (x : List Nat) (b : Int) (ta tb : Tok) (hx : x.length ≤ 64) (hb : 0 ≤ b ∧ b ≤ 64)
   (G : Gd w s.heap) (hdp : dp + 5 < 1000) (hun : un + 100 < 9900)
   (ret : ∀ h' t' tk', Ext s.heap h' → Q (.str (sx (List.replicate b.toNat x).flatten) t') { s with heap := h', toks := tk' }) :
   wpAny (model PySem.Challenge.rw_sw0018_01.row.prog w) (Ar dp un fr gd) (call (.ref 49) [.str (sx x) ta, .int b tb]) Q E s := by
  have ha : (sx x).length ≤ 64 := by rw [sx_len]; exact hx
  w_on
  have KX := G.X
  obtain ⟨p, loose, mg, mb, T⟩ := G.T
  revert KX
  k_fill
  intro KX
  refine' enterG (binds := [("a", .str (sx x) ta), ("b", .int b tb)]) (fun _ _ e => e) (Nat.le_refl _) G ?room ?ho ?hcd ?hb ?hl ?k1 ?k2 ?k3 ?k4 ?_
  case room => simp only [recursionLimit]; omega
  case ho => k_is
  case hcd => k_is
  case hb => exact BindsTo.of_eq rfl
  case hl => exact locs rfl
  case k1 => exact rfl
  case k2 => exact rfl
  case k3 => exact rfl
  case k4 => decide
  intro L h₁ tk m fr' hL F H K1
  have N : News s.heap L h₁ [] := News.nil
  dsimp only [List.reverse, List.reverseAux] at H

  (try k_unmd)
  k_fold
  k_steps
  dsimp only
  repeat (k_unfold; try dsimp only)
  rename Fr _ _ _ _ => F9
  rw [mul_sx]
  exact ret _ _ _ F9.keep
set_option maxHeartbeats 8000000 in
theorem c_mulI (a b : Int) (ta tb : Tok) (ha : 0 ≤ a ∧ a ≤ 64) (hb : 0 ≤ b ∧ b ≤ 64)
   (G : Gd w s.heap) (hdp : dp + 5 < 1000) (hun : un + 100 < 9900)
   (ret : ∀ h' t' tk', Ext s.heap h' → Q (.int (a * b) t') { s with heap := h', toks := tk' }) :
   wpAny (model PySem.Challenge.rw_sw0018_01.row.prog w) (Ar dp un fr gd) (call (.ref 49) [.int a ta, .int b tb]) Q E s := by
  w_on
  have KX := G.X
  obtain ⟨p, loose, mg, mb, T⟩ := G.T
  revert KX
  k_fill
  intro KX
  refine' enterG (binds := [("a", .int a ta), ("b", .int b tb)]) (fun _ _ e => e) (Nat.le_refl _) G ?room ?ho ?hcd ?hb ?hl ?k1 ?k2 ?k3 ?k4 ?_
  case room => simp only [recursionLimit]; omega
  case ho => k_is
  case hcd => k_is
  case hb => exact BindsTo.of_eq rfl
  case hl => exact locs rfl
  case k1 => exact rfl
  case k2 => exact rfl
  case k3 => exact rfl
  case k4 => decide
  intro L h₁ tk m fr' hL F H K1
  have N : News s.heap L h₁ [] := News.nil
  dsimp only [List.reverse, List.reverseAux] at H

  (try k_unmd)
  k_fold
  k_steps
  dsimp only
  repeat (k_unfold; try dsimp only)
  rename Fr _ _ _ _ => F9
  exact ret _ _ _ F9.keep
set_option maxHeartbeats 8000000 in
theorem c_or (a : Int) (k : Nat) (ta tb : Tok) (ha : 0 ≤ a) (hb : a < 2 ^ k)
   (G : Gd w s.heap) (hdp : dp + 5 < 1000) (hun : un + 100 < 9900)
   (ret : ∀ h' t' tk', Ext s.heap h' → Q (.int (a + 2 ^ k) t') { s with heap := h', toks := tk' }) :
   wpAny (model PySem.Challenge.rw_sw0018_01.row.prog w) (Ar dp un fr gd) (call (.ref 56) [.int a ta, .int (2 ^ k) tb]) Q E s := by
  w_on
  have KX := G.X
  obtain ⟨p, loose, mg, mb, T⟩ := G.T
  revert KX
  k_fill
  intro KX
  refine' enterG (binds := [("a", .int a ta), ("b", .int (2 ^ k) tb)]) (fun _ _ e => e) (Nat.le_refl _) G ?room ?ho ?hcd ?hb ?hl ?k1 ?k2 ?k3 ?k4 ?_
  case room => simp only [recursionLimit]; omega
  case ho => k_is
  case hcd => k_is
  case hb => exact BindsTo.of_eq rfl
  case hl => exact locs rfl
  case k1 => exact rfl
  case k2 => exact rfl
  case k3 => exact rfl
  case k4 => decide
  intro L h₁ tk m fr' hL F H K1
  have N : News s.heap L h₁ [] := News.nil
  dsimp only [List.reverse, List.reverseAux] at H

  (try k_unmd)
  k_fold
  k_steps
  dsimp only
  repeat (k_unfold; try dsimp only)
  rename Fr _ _ _ _ => F9
  rw [bitOr_pow _ _ ha hb]
  exact ret _ _ _ F9.keep
set_option maxHeartbeats 8000000 in
theorem c_sub (a b : Int) (ta tb : Tok) 
   (G : Gd w s.heap) (hdp : dp + 5 < 1000) (hun : un + 100 < 9900)
   (ret : ∀ h' t' tk', Ext s.heap h' → Q (.int (a - b) t') { s with heap := h', toks := tk' }) :
   wpAny (model PySem.Challenge.rw_sw0018_01.row.prog w) (Ar dp un fr gd) (call (.ref 63) [.int a ta, .int b tb]) Q E s := by
  w_on
  have KX := G.X
  obtain ⟨p, loose, mg, mb, T⟩ := G.T
  revert KX
  k_fill
  intro KX
  refine' enterG (binds := [("a", .int a ta), ("b", .int b tb)]) (fun _ _ e => e) (Nat.le_refl _) G ?room ?ho ?hcd ?hb ?hl ?k1 ?k2 ?k3 ?k4 ?_
  case room => simp only [recursionLimit]; omega
  case ho => k_is
  case hcd => k_is
  case hb => exact BindsTo.of_eq rfl
  case hl => exact locs rfl
  case k1 => exact rfl
  case k2 => exact rfl
  case k3 => exact rfl
  case k4 => decide
  intro L h₁ tk m fr' hL F H K1
  have N : News s.heap L h₁ [] := News.nil
  dsimp only [List.reverse, List.reverseAux] at H

  (try k_unmd)
  k_fold
  k_steps
  dsimp only
  repeat (k_unfold; try dsimp only)
  rename Fr _ _ _ _ => F9
  exact ret _ _ _ F9.keep
set_option maxHeartbeats 8000000 in
theorem c_contains (a b : Str) (ta tb : Tok) (ha : a.length ≤ 4096)
   (G : Gd w s.heap) (hdp : dp + 5 < 1000) (hun : un + 100 < 9900)
   (ret : ∀ h' tk', Ext s.heap h' → Q (.bool (Txt.contains a b)) { s with heap := h', toks := tk' }) :
   wpAny (model PySem.Challenge.rw_sw0018_01.row.prog w) (Ar dp un fr gd) (call (.ref 70) [.str a ta, .str b tb]) Q E s := by
  w_on
  have KX := G.X
  obtain ⟨p, loose, mg, mb, T⟩ := G.T
  revert KX
  k_fill
  intro KX
  refine' enterG (binds := [("a", .str a ta), ("b", .str b tb)]) (fun _ _ e => e) (Nat.le_refl _) G ?room ?ho ?hcd ?hb ?hl ?k1 ?k2 ?k3 ?k4 ?_
  case room => simp only [recursionLimit]; omega
  case ho => k_is
  case hcd => k_is
  case hb => exact BindsTo.of_eq rfl
  case hl => exact locs rfl
  case k1 => exact rfl
  case k2 => exact rfl
  case k3 => exact rfl
  case k4 => decide
  intro L h₁ tk m fr' hL F H K1
  have N : News s.heap L h₁ [] := News.nil
  dsimp only [List.reverse, List.reverseAux] at H

  (try k_unmd)
  k_fold
  k_steps
  dsimp only
  repeat (k_unfold; try dsimp only)
  rename Fr _ _ _ _ => F9
  exact ret _ _ F9.keep
theorem len_rep (k : Nat) (x : List Nat) : (List.replicate k x).flatten.length = k * x.length := by simp
theorem c_addX (x y : List Nat) (ta tb : Tok) (ha : x.length + y.length ≤ 4096)
   (G : Gd w s.heap) (hdp : dp + 5 < 1000) (hun : un + 100 < 9900)
   (ret : ∀ h' t' tk', Ext s.heap h' → Q (.str (sx (x ++ y)) t') { s with heap := h', toks := tk' }) :
   wpAny (model PySem.Challenge.rw_sw0018_01.row.prog w) (Ar dp un fr gd) (call (.ref 21) [.str (sx x) ta, .str (sx y) tb]) Q E s :=
  c_add w dp un fr gd s Q E (sx x) (sx y) ta tb (by rw [sx_len, sx_len]; exact ha) G hdp hun fun h' t' tk' K => by rw [add_sx]; exact ret h' t' tk' K
end

end
section
local macro_rules | `(tactic| walk_at "call ref") => `(tactic| (k_here; (with_reducible show wpAny _ _ (call (Value.ref 21) [Value.str _ _, Value.str _ _]) _ _ _); k_dflt (refine' Mine.c_add _ _ _ _ _ _ _ _ _ _ _ _ ?z ?G ?d ?u ?_; (case z => first | omega | (simp only [Mine.sx_len, Mine.dots_len, List.length_drop, List.length_take]; omega)); (case G => exact Mine.Gd.keeps (by assumption) (Fr.keep (by k_asm))); (case d => omega); (case u => omega)); intro h' t' tk' K'; (have kz := Mine.lift2 K' (by k_asm) (by k_asm)); (obtain ⟨F', N'⟩ := kz); (try k_sweep)))
local macro_rules | `(tactic| walk_at "call ref") => `(tactic| (k_here; (with_reducible show wpAny _ _ (call (Value.ref 77) [Value.str _ _, Value.str _ _]) _ _ _); k_dflt (refine' Mine.c_ellipsis _ _ _ _ _ ?a ?b ?c _ _ _ _ _ _ _ ?G ?d ?u ?_; (case a => first | omega | (simp only [List.length_drop]; omega)); (case b => omega); (case c => first | assumption | exact fun hz => (‹46 ∉ _› : _) (List.mem_of_mem_drop hz)); (case G => exact Mine.Gd.keeps (by assumption) (Fr.keep (by k_asm))); (case d => omega); (case u => omega)); intro h' tk' K'; (have kz := Mine.lift2 K' (by k_asm) (by k_asm)); (obtain ⟨F', N'⟩ := kz); (try k_sweep)))
local macro_rules | `(tactic| walk_at "call ref") => `(tactic| (k_here; (with_reducible show wpAny _ _ (call (Value.ref 35) [Value.int 1 _, Value.int _ _]) _ _ _); k_dflt (refine' Mine.c_lshift _ _ _ _ _ _ _ _ _ _ _ ?z ?G ?d ?u ?_; (case z => omega); (case G => exact Mine.Gd.keeps (by assumption) (Fr.keep (by k_asm))); (case d => omega); (case u => omega)); intro h' t' tk' K'; (have kz := Mine.lift2 K' (by k_asm) (by k_asm)); (obtain ⟨F', N'⟩ := kz); (try k_sweep)))
local macro_rules | `(tactic| walk_at "call ref") => `(tactic| (k_here; (with_reducible show wpAny _ _ (call (Value.ref 56) [Value.int _ _, Value.int (2 ^ _) _]) _ _ _); k_dflt (refine' Mine.c_or _ _ _ _ _ _ _ _ _ _ _ _ ?y ?z ?G ?d ?u ?_; (case y => first | assumption | omega); (case z => first | assumption | omega); (case G => exact Mine.Gd.keeps (by assumption) (Fr.keep (by k_asm))); (case d => omega); (case u => omega)); intro h' t' tk' K'; (have kz := Mine.lift2 K' (by k_asm) (by k_asm)); (obtain ⟨F', N'⟩ := kz); (try k_sweep)))
section
noncomputable def toldN (x : List Nat) : Nat → Int
  | 0 => 0
  | k + 1 => toldN x k + (if x.take (x.length - k) = x.drop k then 2 ^ k else 0)
theorem toldN_lt (x : List Nat) : ∀ k : Nat, 0 ≤ toldN x k ∧ toldN x k < 2 ^ k
  | 0 => by simp [toldN]
  | k + 1 => by
    have ih := toldN_lt x k
    have hp : (2 : Int) ^ (k + 1) = 2 ^ k + 2 ^ k := by rw [Int.pow_succ]; omega
    simp only [toldN]
    rw [hp]
    split <;> omega
set_option maxHeartbeats 8000000 in
theorem c_told (w : World) (x : List Nat) (tx : Tok) (hx : x.length ≤ 12) (hdot : 46 ∉ x)
   (dp un : Nat) (fr : Option (List Env)) (gd : Option (List Code)) (s : Shared) (Q E : Value → Shared → Prop)
   (G : Gd w s.heap) (hdp : dp + 10 < 1000) (hun : un + 200 < 9900)
   (ret : ∀ h' t' tk', Ext s.heap h' → Q (.int (toldN x (x.length + 1)) t') { s with heap := h', toks := tk' }) :
   wpAny (model PySem.Challenge.rw_sw0018_01.row.prog w) (Ar dp un fr gd) (call (.ref 150) [.str (sx x) tx]) Q E s := by
  w_on
  have KX := G.X
  obtain ⟨p, loose, mg, mb, T⟩ := G.T
  revert KX
  k_fill
  intro KX
  refine' enterG (binds := [("word", .str (sx x) tx)]) (fun _ _ e => e) (Nat.le_refl _) G ?room ?ho ?hcd ?hb ?hl ?k1 ?k2 ?k3 ?k4 ?_
  case room => simp only [recursionLimit]; omega
  case ho => k_is
  case hcd => k_is
  case hb => exact BindsTo.of_eq rfl
  case hl => exact locs rfl
  case k1 => exact rfl
  case k2 => exact rfl
  case k3 => exact rfl
  case k4 => decide
  intro L h₁ tk m fr' hL F H K1
  have N : News s.heap L h₁ [] := News.nil
  dsimp only [List.reverse, List.reverseAux] at H

  (try k_unmd)
  k_fold
  k_steps
  rename Fr _ _ _ _ => F9
  rename News _ _ _ _ => N9
  rename Has _ _ => H9
  rename IsRange _ _ _ _ _ _ _ _ => R9
  refine Stop.mk ?_
  refine' iterRange (n := x.length + 1) (fun i m nw => ∃ t1, Has m [("word", .str (sx x) tx), ("marks", .int (toldN x i) t1)]) ?a ?b ?c ?F ?N ?R ?sm ?sz ?j ?turn ?done
  case a => rfl
  case b => rfl
  case c => rfl
  case F => exact F9
  case N => exact N9
  case R => exact R9
  case sm => exact small_nat _ _ (by omega) (by omega)
  case sz => rw [rangeSize_nat]; omega
  case j => exact ⟨_, H9.sub ⟨rfl, rfl, trivial⟩⟩
  case turn =>
    intro i t m₁ news₁ I h tk o hi hJ hne F N
    obtain ⟨t1, H⟩ := hJ
    replace H := H.put "p" (.int (0 + (i : Nat)) t)
    have hb := toldN_lt x i
    have ei : ((0 : Int) + (i : Nat)).toNat = i := by omega
    have hb2 : toldN x i < 2 ^ ((0 : Int) + (i : Nat)).toNat := by rw [ei]; exact hb.2
    k_steps
    · -- it is a shift
      rename (_ == true) = true => q1
      rename Fr _ _ _ _ => F9
      rename News _ _ _ _ => N9
      rename Has _ _ => H9
      have e : toldN x (i + 1) = toldN x i + 2 ^ ((0 : Int) + (i : Nat)).toNat := by
        rw [ei] at q1 ⊢
        simp only [toldN]
        rw [if_pos]
        have := of_decide_eq_true (eq_of_beq q1)
        rwa [List.length_drop] at this
      exact ⟨_, _, _, _, rfl, F9, N9, by k_mem, _, fun p hp => .tail _ hp, hne, _, H9.sub ⟨rfl, by rw [e]; rfl, trivial⟩⟩
    · exfalso
      rename (_ == true) = false => q1
      rename (_ != false) = true => q2
      simp only [bne, q1] at q2
      revert q1 q2
      generalize (decide (x.take (x.drop ((0 : Int) + (i : Nat)).toNat).length = x.drop ((0 : Int) + (i : Nat)).toNat)) = c
      cases c <;> simp
    · rename (_ == true) = false => q1
      rename Fr _ _ _ _ => F9
      rename News _ _ _ _ => N9
      rename Has _ _ => H9
      have e : toldN x (i + 1) = toldN x i := by
        rw [ei] at q1
        simp only [toldN]
        rw [if_neg, Int.add_zero]
        intro z
        rw [List.length_drop, decide_eq_true z] at q1
        cases q1
      exact ⟨_, _, _, _, rfl, F9, N9, by k_mem, _, fun p hp => .tail _ hp, hne, _, H9.sub ⟨rfl, by rw [e]; rfl, trivial⟩⟩
  case done =>
    intro m₁ news₁ h tk hJ F N
    obtain ⟨t1, H⟩ := hJ
    k_steps
    dsimp only
    repeat (k_unfold; try dsimp only)
    rename Fr _ _ _ _ => F9
    exact ret _ _ _ F9.keep

end
section
theorem CompQ.weaken {prog : Program} {w : World} {A : Around} {env : Env} {scope : Scope} {cl : List (Str × Addr)} {x : Str} {ifs : List Expr} {elt : Expr} {P P' : Value → Prop} {p : Value → Bool} {F : Value → Value → Prop} {s : Shared}
    (q : CompQ prog w A env scope cl x ifs elt P p F s) (h : ∀ v, P' v → P v) : CompQ prog w A env scope cl x ifs elt P' p F s :=
  ⟨fun C v s₃ m₃ E' Qb a b => q.tests C v s₃ m₃ E' Qb a (h v b), fun C v s₃ m₃ E' Qv a b => q.elt C v s₃ m₃ E' Qv a (h v b)⟩
theorem ints_mem {vs : List Value} {S : List Int} (h : IntsAre vs S) : ∀ v ∈ vs, ∃ k t, v = .int k t ∧ k ∈ S := by
  induction h with
  | nil => intro v hv; cases hv
  | cons n t _ ih =>
    intro v hv
    rcases List.mem_cons.mp hv with rfl | hv
    · exact ⟨n, t, rfl, .head _⟩
    · obtain ⟨k, t', e, hk⟩ := ih v hv
      exact ⟨k, t', e, .tail _ hk⟩
theorem paired_ints (pz : Int → Bool) (f : Int → Int) {vs : List Value} {S : List Int} (h : IntsAre vs S) : ∀ {ys : List Value},
    Paired (fun v y => ∃ k t t', v = Value.int k t ∧ y = Value.int (f k) t') (vs.filter (fun v => match v with | .int k _ => pz k | _ => false)) ys → IntsAre ys ((S.filter pz).map f) := by
  induction h with
  | nil => intro ys hy; cases hy; exact .nil
  | cons n t _ ih =>
    intro ys hy
    by_cases hp : pz n = true
    · rw [List.filter_cons_of_pos (by simpa using hp)] at hy
      rw [List.filter_cons_of_pos hp, List.map_cons]
      cases hy with
      | cons a r =>
        obtain ⟨k, t1, t2, e1, e2⟩ := a
        cases e1
        rw [e2]
        exact .cons _ _ (ih r)
    · rw [List.filter_cons_of_neg (by simpa using hp)] at hy
      rw [List.filter_cons_of_neg hp]
      exact ih hy
theorem paired_same (pz : Int → Bool) {vs : List Value} {S : List Int} (h : IntsAre vs S) {ys : List Value}
    (hy : Paired (fun v y => y = v) (vs.filter (fun v => match v with | .int k _ => pz k | _ => false)) ys) : IntsAre ys (S.filter pz) := by
  have key : ∀ {l₁ l₂ : List Value}, (∀ v ∈ l₁, ∃ k t, v = Value.int k t) → Paired (fun v y => y = v) l₁ l₂ → Paired (fun v y => ∃ k t t', v = Value.int k t ∧ y = Value.int (id k) t') l₁ l₂ := by
    intro l₁ l₂ hv hp
    induction hp with
    | nil => exact .nil
    | cons a _ ih =>
      subst a
      obtain ⟨k, t, e⟩ := hv _ (.head _)
      exact .cons ⟨k, t, t, e, e⟩ (ih fun v hv' => hv v (.tail _ hv'))
  have := paired_ints pz id h (key (fun v hv => by
    obtain ⟨k, t, e, _⟩ := ints_mem h v (List.mem_filter.mp hv).1
    exact ⟨k, t, e⟩) hy)
  simpa using this

theorem compq_sub {prog : Program} {w : World} {A : Around} {env : Env} {scope : Scope} {cn : Str} {c : Addr} {k₀ : Int} {t₀ : Tok} {p1 p2 p3 p4 p5 p6 : Pos} {s : Shared}
    (hk : (relabel scope env).kind = .function) (hp : (relabel scope env).names.lookup ("p" : Str) = some NameKind.local) (hc : (relabel scope env).names.lookup cn = some NameKind.cell) (hd : (cn == ("__debug__" : Str)) = false)
    (cell : s.heap.IsCell c (some (.int k₀ t₀))) :
    CompQ prog w A env scope [(cn, c)] "p" [.Compare (.Name "p" p1) [.Gt] [.Name cn p2] p3] (.BinOp (.Name "p" p4) .Sub (.Name cn p5) p6) (fun v => ∃ k t, v = .int k t)
      (fun v => match v with | .int k _ => decide (k₀ < k) | _ => false) (fun v y => ∃ k t t', v = .int k t ∧ y = .int (k - k₀) t') s := by
  have hl : [(cn, c)].lookup cn = some c := by rw [List.lookup_cons, beq_self_eq_true]
  constructor
  · rintro C v s₃ m₃ E' Qb hC ⟨k, t, rfl⟩ hns hm hK hQ
    refine wpAny_tests_one (wpAny_isTrue_Compare1 (ldVarK hns hm (ldCellK (c := c) hl (isCell_ext cell hK) (gt_int (wpAny_truthy_bool (hQ _ _ Ext.rfl'))) hk hc hd) hk hp))
  · rintro C v s₃ m₃ E' Qv hC ⟨k, t, rfl⟩ hpv hns hm hK hQ
    exact wpAny_BinOp (ldVarK hns hm (ldCellK (c := c) hl (isCell_ext cell hK) (sub_int (hQ _ _ _ ⟨k, t, _, rfl, rfl⟩ Ext.rfl')) hk hc hd) hk hp)
theorem compq_mod {prog : Program} {w : World} {A : Around} {env : Env} {scope : Scope} {cn : Str} {c : Addr} {k₀ : Int} {t₀ : Tok} {p1 p2 p3 p4 p5 p6 : Pos} {u : Nat} {s : Shared}
    (hk : (relabel scope env).kind = .function) (hp : (relabel scope env).names.lookup ("q" : Str) = some NameKind.local) (hc : (relabel scope env).names.lookup cn = some NameKind.cell) (hd : (cn == ("__debug__" : Str)) = false)
    (cell : s.heap.IsCell c (some (.int k₀ t₀))) :
    CompQ prog w A env scope [(cn, c)] "q" [.Compare (.BinOp (.Name cn p1) .Mod (.Name "q" p2) p3) [.Eq] [.Constant (.int 0) u p4] p5] (.Name "q" p6) (fun v => ∃ k t, v = .int k t ∧ 0 < k)
      (fun v => match v with | .int k _ => decide (k₀ % k = 0) | _ => false) (fun v y => y = v) s := by
  have hl : [(cn, c)].lookup cn = some c := by rw [List.lookup_cons, beq_self_eq_true]
  constructor
  · rintro C v s₃ m₃ E' Qb hC ⟨k, t, rfl, hk0⟩ hns hm hK hQ
    refine wpAny_tests_one (wpAny_isTrue_Compare1 (wpAny_BinOp (ldCellK (c := c) hl (isCell_ext cell hK) (ldVarK hns hm (mod_int (by omega) ?_) hk hp) hk hc hd)))
    rw [Int.fmod_eq_emod_of_nonneg _ (by omega)]
    refine wpAny_Constant_int (eq_int (wpAny_truthy_bool ?_))
    have : (k₀ % k == 0) = decide (k₀ % k = 0) := by
      by_cases h : k₀ % k = 0 <;> simp [h]
    rw [this]
    exact hQ _ _ Ext.rfl'
  · rintro C v s₃ m₃ E' Qv hC ⟨k, t, rfl, hk0⟩ hpv hns hm hK hQ
    exact ldVarK hns hm (hQ _ _ _ rfl Ext.rfl') hk hp

end
section
noncomputable def UpdP (D : Addr) (o : Obj) (news : List (Addr × Obj)) (g : Obj → List (Addr × Obj)) : Prop := ∀ o', Upd D o o' news (g o')
theorem append_P {prog : Program} {w : World} {A : Around} {E : Value → Shared → Prop} {s : Shared} {h₀ : Heap} {L D : Addr} {m : Str → Option Value} {news : List (Addr × Obj)} {g : Obj → List (Addr × Obj)} {its : Array Value} {n : Nat} {x : Value} {Q : Value → Shared → Prop}
    (F : Fr h₀ L s.heap m) (N : News h₀ L s.heap news) (U : UpdP D (listOf its n) news g) (hsz : its.size ≤ 4096)
    (h : ∀ h', Fr h₀ L h' m → News h₀ L h' (g (listOf (its.push x) (n + 1))) → Q .none { s with heap := h' }) : wpAny (model prog w) A (call (.builtin "list.append") [.ref D, x]) Q E s :=
  append_K F N (U _) h (by rw [sizeLine_eq]; omega)
noncomputable def Words (ys : List Value) (ps : List (List Nat)) : Prop := Paired (fun v p => ∃ t, v = Value.str (sx p) t) ys ps
structure PiecesOk (fs : List Nat) (ps : List (List Nat)) : Prop where
  ne : ps ≠ []
  each : ∀ p ∈ ps, p ≠ [] ∧ ∀ c ∈ p, c ∈ fs
  len : ps.flatten.length ≤ 12
theorem Words.length {ys : List Value} {ps : List (List Nat)} (h : Words ys ps) : ys.length = ps.length := by
  induction h with
  | nil => rfl
  | cons _ _ ih => simp [ih]
theorem Words.snoc {ys : List Value} {ps : List (List Nat)} {p : List Nat} {t : Tok} (h : Words ys ps) : Words (ys ++ [.str (sx p) t]) (ps ++ [p]) := by
  induction h with
  | nil => exact .cons ⟨_, rfl⟩ .nil
  | cons a _ ih => exact .cons a ih
theorem Words.push {ys : Array Value} {ps : List (List Nat)} {p : List Nat} {t : Tok} (h : Words ys.toList ps) : Words (ys.push (.str (sx p) t)).toList (ps ++ [p]) := by
  rw [Array.toList_push]; exact h.snoc
theorem len_le_flat : ∀ {ps : List (List Nat)}, (∀ p ∈ ps, p ≠ []) → ps.length ≤ ps.flatten.length
  | [], _ => Nat.zero_le _
  | p :: ps, h => by
    have := len_le_flat (ps := ps) fun q hq => h q (.tail _ hq)
    have := List.length_pos_iff.mpr (h p (.head _))
    simp only [List.length_cons, List.flatten_cons, List.length_append]; omega
theorem PiecesOk.snoc {fs : List Nat} {ps : List (List Nat)} {p : List Nat} (h : PiecesOk fs ps) (h1 : p ≠ []) (h2 : ∀ c ∈ p, c ∈ fs) (h3 : ps.flatten.length + p.length ≤ 12) : PiecesOk fs (ps ++ [p]) where
  ne := by simp
  each := fun q hq => by
    rcases List.mem_append.mp hq with hq | hq
    · exact h.each q hq
    · rw [List.mem_singleton.mp hq]; exact ⟨h1, h2⟩
  len := by simpa using h3
theorem PiecesOk.flat {fs : List Nat} {ps : List (List Nat)} (h : PiecesOk fs ps) : ∀ c ∈ ps.flatten, c ∈ fs := fun c hc => by
  obtain ⟨p, hp, hc⟩ := List.mem_flatten.mp hc
  exact (h.each p hp).2 c hc
theorem ne_sx {X : List Nat} (h : (sx X != "") = true) : X ≠ [] := by
  rintro rfl
  revert h; decide
theorem eq_sx_nil {X : List Nat} (h : (sx X != "") = false) : X = [] := by
  cases X with
  | nil => rfl
  | cons a r =>
    have e : sx (a :: r) = "" := by simpa using h
    have := congrArg (fun s : Str => s.cps.toList) e
    cases this
theorem flat_snoc (ps : List (List Nat)) (X : List Nat) : (ps ++ [X]).flatten = ps.flatten ++ X := by simp

end
section
theorem words_of_carried : ∀ {ys : List Value} {x : List Nat}, CarriedAll ys ((signs (sx x)).map .str) → Words ys (x.map fun c => [c])
  | ys, [], h => by cases h; exact .nil
  | ys, c :: x, h => by
    have e : (signs (sx (c :: x))).map PyData.str = .str (sx [c]) :: (signs (sx x)).map .str := by simp [signs, sx]
    rw [e] at h
    cases h with
    | cons a r =>
      cases a with
      | str _ t => exact .cons ⟨t, rfl⟩ (words_of_carried r)
theorem Words.append {a b : List Value} {p q : List (List Nat)} (h : Words a p) (k : Words b q) : Words (a ++ b) (p ++ q) := by
  induction h with
  | nil => exact k
  | cons x _ ih => exact .cons x ih
theorem Words.reverse {a : List Value} {p : List (List Nat)} (h : Words a p) : Words a.reverse p.reverse := by
  induction h with
  | nil => exact .nil
  | cons x _ ih =>
    rw [List.reverse_cons, List.reverse_cons]
    exact ih.append (.cons x .nil)
theorem list_sx {prog : Program} {w : World} {A : Around} {E : Value → Shared → Prop} {s : Shared} {h₀ : Heap} {L : Addr} {m : Str → Option Value} {news : List (Addr × Obj)} {x : List Nat} {t : Tok} {Q : Value → Shared → Prop}
    (hh : A.handled = none) (F : Fr h₀ L s.heap m) (N : News h₀ L s.heap news) (hx : x.length ≤ 4096)
    (h : ∀ D (ys : List Value) k h' tk, Fr h₀ L h' m → News h₀ L h' ((D, listOf ys.toArray k) :: news) → (∀ q ∈ news, q.1 < D) → Words ys (x.map fun c => [c]) → ys.length = x.length → Q (.ref D) { s with heap := h', toks := tk }) :
    wpAny (model prog w) A (call (.type "list") [.str (sx x) t]) Q E s := by
  refine list_strD hh F N (fun h' tk ys F' N' hk hn hl hp hc => ?_) (by rw [sx_len, sizeLine_eq]; omega)
  obtain ⟨⟨k, hk'⟩, hne⟩ := hp
  have hW := words_of_carried hc
  exact h _ ys k h' tk F' (News.more F' N' hk' (fun es n e => nomatch e) hn) (fun q hq => Heap.lt_size (N q hq).1) hW (by rw [hW.length, List.length_map])
theorem rev_made {prog : Program} {w : World} {A : Around} {E : Value → Shared → Prop} {s : Shared} {h₀ : Heap} {L D : Addr} {m : Str → Option Value} {news news' : List (Addr × Obj)} {ys : List Value} {n : Nat} {Q : Value → Shared → Prop}
    (F : Fr h₀ L s.heap m) (N : News h₀ L s.heap news) (U : Upd D (listOf ys.toArray n) (listOf ys.reverse.toArray n) news news') (hz : ys.length ≤ 4096)
    (h : ∀ h', Fr h₀ L h' m → News h₀ L h' news' → Q .none { s with heap := h' }) : wpAny (model prog w) A (call (.builtin "list.reverse") [.ref D]) Q E s :=
  kl_reverse F N rfl U (by rw [sizeLine_eq]; simp; omega) h

end
section
/-- what is kept but for some places -/
noncomputable def But (l : List Addr) (h h' : Heap) : Prop := ∀ b o, b ∉ l → h.get? b = some o → h'.get? b = some o
theorem But.trans {l : List Addr} {a b c : Heap} (x : But l a b) (y : But l b c) : But l a c := fun p o hp e => y p o hp (x p o hp e)
theorem But.weaken {l l' : List Addr} {a b : Heap} (x : But l a b) (h : ∀ p ∈ l, p ∈ l') : But l' a b := fun p o hp e => x p o (fun q => hp (h p q)) e
theorem But.of_ext {l : List Addr} {a b : Heap} (x : Ext a b) : But l a b := fun p o _ e => x p o e
theorem Ext.hidden {l : List Addr} {h h' : Heap} (x : But l h h') : Ext (hideAll h l) h' := fun b o e => x b o (fun hb => by rw [hideAll_none l hb] at e; cases e) (of_hideAll l e)
theorem Gd.hide {w : World} {g h : Heap} {l : List Addr} (G : Gd w g) (K : Ext g h) (hn : ∀ a ∈ l, g.get? a = none) : Gd w (hideAll h l) :=
  G.keeps fun b o e => hideAll_get l (K b o e) fun hb => by rw [hn b hb] at e; cases e
theorem hide_ext {l : List Addr} {h : Heap} : Ext (hideAll h l) h := fun _ _ e => of_hideAll l e
theorem hide_size {l : List Addr} {h : Heap} : (hideAll h l).objs.size ≤ h.objs.size := Nat.le_of_eq (hideAll_size l h)
/-- a ledger over what is hidden -/
theorem led0 {h : Heap} {news : List (Addr × Obj)} (e : ∀ p ∈ news, h.get? p.1 = some p.2) : ∀ p ∈ news, h.get? p.1 = some p.2 ∧ (hideAll h (news.map (·.1))).get? p.1 = none :=
  fun p hp => ⟨e p hp, hideAll_none _ (List.mem_map_of_mem hp)⟩
/-- what a frame over a hidden base keeps -/
theorem but_of {h h' : Heap} {L : Addr} {m : Str → Option Value} {objs news : List (Addr × Obj)} {l : List Addr} (F : Fr (hideAll h (objs.map (·.1))) L h' m) (N : News (hideAll h (objs.map (·.1))) L h' news) (e : ∀ p ∈ objs, h.get? p.1 = some p.2)
    (hk : ∀ p ∈ objs, p.1 ∈ l ∨ p ∈ news) : But l h h' := by
  intro b o hb he
  by_cases hm : b ∈ objs.map (·.1)
  · obtain ⟨p, hp, rfl⟩ := List.mem_map.mp hm
    rcases hk p hp with h1 | h1
    · exact absurd h1 hb
    · rw [e p hp] at he
      cases he
      exact (N p h1).1
  · exact F.keep _ _ (hideAll_get _ he hm)
section
variable {w : World} {prog : Program} {A : Around} {s : Shared} {g : Heap} {E : Value → Shared → Prop}
  {name qual : Str} {params : Arguments} {body : Expr} {scope : Scope} {f c : Addr} {args : List Value} {binds : List (Str × Value)} {cl : List (Str × Addr)} {pm ctv : Value}
/-- entering a lambda of the ledger -/
theorem enterL {R : Result → Shared → Prop} {news : List (Addr × Obj)} {oc : Obj} {vs : Array Value} {tq : Tok} (hh : A.handled = none) (hsub : Ext g s.heap) (hsz : g.objs.size ≤ s.heap.objs.size) (N0 : ∀ p ∈ news, s.heap.get? p.1 = some p.2 ∧ g.get? p.1 = none) (G : Gd w g) (hroom : A.depth < recursionLimit)
    (hf : (f, kla_obj name qual params body scope cl pm c ctv) ∈ news) (hc : (c, oc) ∈ news) (hd : oc.data = .fields vs) (hv : vs[1]? = some (.str qual tq))
    (hbind : bindArgs (kla_fn name qual params body scope cl pm (.ref c) ctv) ⟨args, []⟩ = pure binds) (hloc : ∀ y ∈ binds, scope.names.lookup y.1 = some .local)
    (hco : scope.isCoroutine = false) (hgen : scope.isGenerator = false) (hk : scope.kind = .function) (hcell : ∀ x ∈ scope.names, x.2 ≠ .cell)
    (h : ∀ L h₁ tk m fr', s.heap.objs.size ≤ L → Fr g L h₁ m → Has m binds.reverse → News g L h₁ news → Ext s.heap h₁ →
      wpAny (model prog w) (Ar (A.depth + 1) (A.units + 3) fr' A.guards) (eval body (envX qual scope L f (.ref c) cl))
        (fun v s' => R (.ok (.ret v)) s') (fun _ _ => False) { s with heap := h₁, toks := tk }) :
    codeAny (model prog w) A (.call (.ref f) ⟨args, []⟩) R s := by
  obtain ⟨p, loose, mg, mb, T⟩ := G.T
  obtain ⟨_, dp, fr, gd, un⟩ := A
  cases hh
  refine kla_callFunE hroom (N0 _ hf).1 rfl hco hgen rfl ⟨c, oc, vs, tq, rfl, (N0 _ hc).1, hd, hv⟩ ?_
  rw [hbind]
  refine wpAny_pure (wpAny_newFunctionEnv hcell hloc (fun h₁ hns hsb => ⟨((T.nolimit).keeps hsub).fresh _ hsb, ?_⟩) hk)
  have hk₁ : ∀ b o, s.heap.get? b = some o → h₁.get? b = some o := fun b o e => hsb.extBut b o (Nat.ne_of_lt (Heap.lt_size e)) (Heap.get?_push_of_some _ e)
  refine kla_codeExpr (wpAny_mono (h s.heap.objs.size h₁ _ _ _ (Nat.le_refl _) ⟨hns, fun b o e => hk₁ b o (hsub _ _ e), hsz⟩ (Has.of_lookup _) (fun p hp => ⟨hk₁ _ _ (N0 p hp).1, Nat.ne_of_lt (Heap.lt_size (N0 p hp).1), (N0 p hp).2⟩) hk₁) (fun fl s' hl => hl) fun _ _ y => y.elim)
theorem truthy_made {h₀ : Heap} {L l : Addr} {news : List (Addr × Obj)} {its : Array Value} {n : Nat} {Q : Bool → Shared → Prop} (N : News h₀ L s.heap news) (hm : (l, listOf its n) ∈ news) (hz : its.size ≤ 4096)
    (h : ∀ tk, Q (!its.isEmpty) { s with toks := tk }) : wpAny (model prog w) A (truthy (.ref l)) Q E s :=
  wpAny_truthy_list ⟨_, (N _ hm).1, rfl, n, rfl⟩ (Int.lt_of_le_of_lt (Int.ofNat_le.mpr hz) (by decide)) (h _)
theorem kl_snoc : ∀ (p : List Value) (y : Value), kl_last (p ++ [y]) = some (p, y)
  | [], y => rfl
  | a :: p, y => by
    show kl_last (a :: (p ++ [y])) = _
    unfold kl_last
    rw [kl_snoc p y]
theorem pop_made {h₀ : Heap} {L D : Addr} {m : Str → Option Value} {news news' : List (Addr × Obj)} {p : List Value} {y : Value} {n : Nat} {Q : Value → Shared → Prop} (F : Fr h₀ L s.heap m) (N : News h₀ L s.heap news)
    (U : Upd D (listOf (p ++ [y]).toArray n) (listOf p.toArray (n + 1)) news news') (hz : p.length ≤ 4095) (h : ∀ h', Fr h₀ L h' m → News h₀ L h' news' → Q y { s with heap := h' }) :
    wpAny (model prog w) A (call (.builtin "list.pop") [.ref D]) Q E s :=
  kl_pop F N (kl_snoc p y) U (by rw [sizeLine_eq]; simp; omega) h
end
theorem led4 {h : Heap} {a b c d : Addr} {oa ob oc od : Obj} (ea : h.get? a = some oa) (eb : h.get? b = some ob) (ec : h.get? c = some oc) (ed : h.get? d = some od) : ∀ p ∈ [(a, oa), (b, ob), (c, oc), (d, od)], h.get? p.1 = some p.2 := by
  intro p hp
  simp only [List.mem_cons, List.not_mem_nil, or_false] at hp
  rcases hp with rfl | rfl | rfl | rfl <;> assumption
theorem hid {w : World} {h : Heap} {objs : List (Addr × Obj)} (e : ∀ p ∈ objs, h.get? p.1 = some p.2) (G : Gd w (hideAll h (objs.map (·.1)))) :
    ∃ g2, (∀ p ∈ objs, h.get? p.1 = some p.2 ∧ g2.get? p.1 = none) ∧ Gd w g2 ∧ Ext g2 h ∧ g2.objs.size ≤ h.objs.size ∧
      (∀ L h' m news l, Fr g2 L h' m → News g2 L h' news → (∀ p ∈ objs, p.1 ∈ l ∨ p ∈ news) → But l h h') :=
  ⟨_, led0 e, G, hide_ext, hide_size, fun _ _ _ _ _ F N hk => but_of F N e hk⟩
theorem truthy_snoc {prog : Program} {w : World} {A : Around} {E : Value → Shared → Prop} {s : Shared} {h₀ : Heap} {L l : Addr} {news : List (Addr × Obj)} {p : List Value} {y : Value} {n : Nat} {Q : Bool → Shared → Prop} (N : News h₀ L s.heap news) (hm : (l, listOf (p ++ [y]).toArray n) ∈ news) (hz : p.length ≤ 4095)
    (h : ∀ tk, Q true { s with toks := tk }) : wpAny (model prog w) A (truthy (.ref l)) Q E s :=
  truthy_made N hm (by simp; omega) fun tk => by
    have : (!(p ++ [y]).toArray.isEmpty) = true := by cases p <;> simp
    rw [this]; exact h tk
theorem truthy_nil {prog : Program} {w : World} {A : Around} {E : Value → Shared → Prop} {s : Shared} {h₀ : Heap} {L l : Addr} {news : List (Addr × Obj)} {n : Nat} {Q : Bool → Shared → Prop} (N : News h₀ L s.heap news) (hm : (l, listOf #[] n) ∈ news)
    (h : ∀ tk, Q false { s with toks := tk }) : wpAny (model prog w) A (truthy (.ref l)) Q E s :=
  truthy_made N hm (by simp) fun tk => h tk
theorem Words.split {left : List Value} {cs : List Nat} (h : Words left (cs.map fun c => [c])) : (left = [] ∧ cs = []) ∨ ∃ c t cs' left', cs = c :: cs' ∧ left = .str (sx [c]) t :: left' ∧ Words left' (cs'.map fun c => [c]) := by
  cases cs with
  | nil => cases h; exact .inl ⟨rfl, rfl⟩
  | cons c cs' =>
    rw [List.map_cons] at h
    cases h with
    | cons a r => obtain ⟨t, rfl⟩ := a; exact .inr ⟨c, t, cs', _, rfl, rfl, r⟩
theorem liftObjs {g h h' : Heap} {L : Addr} {m : Str → Option Value} {objs objs' rest : List (Addr × Obj)} {l : List Addr} (K : But l h h') (F : Fr g L h m) (N : News g L h (objs ++ rest)) (ha : objs'.map (·.1) = objs.map (·.1))
    (e' : ∀ p ∈ objs', h'.get? p.1 = some p.2) (hl : ∀ a ∈ l, a ∈ objs.map (·.1)) (hr : ∀ p ∈ rest, p.1 ∉ l) : Fr g L h' m ∧ News g L h' (objs' ++ rest) := by
  have hn : ∀ a ∈ l, a ≠ L ∧ g.get? a = none := by
    intro a h1
    obtain ⟨p, hp, rfl⟩ := List.mem_map.mp (hl a h1)
    exact (N p (List.mem_append_left _ hp)).2
  refine ⟨⟨F.ns.at' fun o e => K _ o (fun q => (hn _ q).1 rfl) e, fun b o e => K b o (fun q => by rw [(hn b q).2] at e; cases e) (F.keep b o e), F.above⟩, fun p hp => ?_⟩
  rcases List.mem_append.mp hp with hp | hp
  · have : p.1 ∈ objs.map (·.1) := ha ▸ List.mem_map_of_mem hp
    obtain ⟨q, hq, eq⟩ := List.mem_map.mp this
    have z := (N q (List.mem_append_left _ hq)).2
    rw [eq] at z
    exact ⟨e' p hp, z⟩
  · have z := N p (List.mem_append_right _ hp)
    exact ⟨K _ _ (hr p hp) z.1, z.2⟩
theorem liftObjs0 {g h h' : Heap} {L : Addr} {m : Str → Option Value} {objs objs' : List (Addr × Obj)} {l : List Addr} (K : But l h h') (F : Fr g L h m) (N : News g L h objs) (ha : objs'.map (·.1) = objs.map (·.1))
    (e' : ∀ p ∈ objs', h'.get? p.1 = some p.2) (hl : ∀ a ∈ l, a ∈ objs.map (·.1)) : Fr g L h' m ∧ News g L h' objs' := by
  have := liftObjs (rest := []) K F (by rw [List.append_nil]; exact N) ha e' hl (fun p hp => nomatch hp)
  rwa [List.append_nil] at this

end
section
theorem slot_ci_next : Slot "callable_iterator" "__next__" "callable_iterator.__next__" :=
  .of (owner := "callable_iterator") (n := "__next__") (by rw [typeLookup_type, builtinLookup_eq_fast]; kernel_rfl) (by decide +kernel) (by decide +kernel) (by decide +kernel)
    (by first | exact .inl (by decide +kernel) | exact .inr (by decide +kernel)) (by rw [isSubtype_type]; kernel_rfl)
theorem entry_ci_next : entryFor table "callable_iterator.__next__" = some Builtin.«callable_iterator.__next__» := entryFor_of_tree (by kernel_rfl)
theorem args_ci_next (a : Value) : argsOk "callable_iterator.__next__" ⟨[a], []⟩ := by unfold argsOk; kernel_rfl
noncomputable abbrev ciObj (B sent : Value) (done : Bool) : Obj := { cls := .type "callable_iterator", data := .fields #[B, sent, .bool done] }
section
variable {prog : Program} {w : World} {A : Around} {E : Value → Shared → Prop} {s : Shared} {I B f X : Addr} {t : Tok} {fc : Value} {fod : Option Addr} {ffd : FuncData} {fsl : Array (Option Value)}
theorem callBorrowed_ {M : Model} {g : Value} {pos : List Value} {Q : Value → Shared → Prop}
    (hc : codeAny M A (.call g ⟨pos, []⟩) (fun r s' => match r with | .ok (.ret v) => Q v s' | .ok _ => False | .error e => E e s') s) : wpAny M A (callBorrowed g pos) Q E s := fun Γ p hΓ => by
  unfold callBorrowed
  rw [Sem.wp_call]
  refine wpCode_mono (fun r s' h => ?_) (hc _ p rfl (hΓ.enter _ none p (by intro x; cases x)))
  rcases r with e | (v | _ | _ | _) <;> first | exact h | exact h.elim
theorem borrows_method {M : Model} {Q : Bool → Shared → Prop} (hB : s.heap.get? B = some (methodObj (.ref f) (.ref X))) (hf : s.heap.get? f = some ⟨fc, fod, .func ffd, fsl⟩) (h : Q true s) : wpAny M A (borrowsExactly (.ref B)) Q E s := by
  unfold borrowsExactly
  refine wpAny_bind (wpAny_load hB ?_)
  show wpAny M A (if (Value.type "method" == Value.type "method") = true then _ else _) _ _ _
  rw [if_pos (by rfl)]
  show wpAny M A (load f >>= _) _ _ _
  exact wpAny_bind (wpAny_load hf (wpAny_pure h))
theorem ci_call {Q : Value → Shared → Prop} (hB : s.heap.get? B = some (methodObj (.ref f) (.ref X))) (hf : s.heap.get? f = some ⟨fc, fod, .func ffd, fsl⟩)
    (h : codeAny (model prog w) A (.call (.ref f) ⟨[.ref X], []⟩) (fun r s' => match r with | .ok (.ret v) => Q v s' | .ok _ => False | .error e => E e s') s) : wpAny (model prog w) A (callOutOfASlot (.ref B)) Q E s := by
  unfold callOutOfASlot
  refine wpAny_bind (borrows_method hB hf ?_)
  rw [if_pos rfl]
  exact callBorrowed_ (method_call hB h)
theorem ci_next {Q : Option Value → Shared → Prop} (hI : s.heap.get? I = some (ciObj (.ref B) (.str "" t) false)) (hB : s.heap.get? B = some (methodObj (.ref f) (.ref X))) (hf : s.heap.get? f = some ⟨fc, fod, .func ffd, fsl⟩)
    (h : codeAny (model prog w) A.in1 (.call (.ref f) ⟨[.ref X], []⟩) (fun r s' => ∃ y t', r = .ok (.ret (.str (sx y) t')) ∧ s'.heap.get? I = some (ciObj (.ref B) (.str "" t) false) ∧ y ≠ [] ∧ Q (some (.str (sx y) t')) s') s) :
    wpAny (model prog w) A (pyNext (.ref I)) Q E s := by
  have hT : s.TypeIs (.ref I) "callable_iterator" := ⟨_, hI, rfl⟩
  unfold pyNext
  refine wpAny_bind (wpAny_attempt (wpAny_callSpecial?_slot (name := Str.ofString "__next__") hT slot_ci_next (wpAny_call_entry slot_ci_next hT entry_ci_next ?_ (args_ci_next _))))
  show wpAny _ _ (field (.ref I) 2 >>= _) _ _ _
  refine wpAny_bind (wpAny_field hI rfl (x := .bool false) rfl ?_)
  show wpAny _ _ (field (.ref I) 0 >>= _) _ _ _
  refine wpAny_bind (wpAny_field hI rfl (x := .ref B) rfl ?_)
  refine wpAny_bind (wpAny_attempt (ci_call hB hf (codeAny_mono h fun r s' hr => ?_)))
  obtain ⟨y, t', rfl, hI', hy, hq⟩ := hr
  show wpAny _ _ (field (.ref I) 2 >>= _) _ _ _
  refine wpAny_bind (wpAny_field hI' rfl (x := .bool false) rfl ?_)
  show wpAny _ _ (field (.ref I) 1 >>= _) _ _ _
  refine wpAny_bind (wpAny_field hI' rfl (x := .str "" t) rfl ?_)
  refine wpAny_bind (wpAny_holding (eqBool_str ?_))
  have e : (("" : Str) == sx y) = false := by
    cases y with
    | nil => exact absurd rfl hy
    | cons a r =>
      rw [beq_eq_false_iff_ne]
      intro q
      have := congrArg (fun s : Str => s.cps.toList) q
      cases this
  rw [e]
  exact wpAny_pure ⟨_, rfl, wpAny_pure hq⟩
theorem ci_end {Q : Option Value → Shared → Prop} (hh : A.handled = none) (hI : s.heap.get? I = some (ciObj (.ref B) (.str "" t) false)) (hB : s.heap.get? B = some (methodObj (.ref f) (.ref X))) (hf : s.heap.get? f = some ⟨fc, fod, .func ffd, fsl⟩)
    (h : codeAny (model prog w) A.in1 (.call (.ref f) ⟨[.ref X], []⟩) (fun r s' => ∃ t', r = .ok (.ret (.str (sx []) t')) ∧ s'.heap.get? I = some (ciObj (.ref B) (.str "" t) false) ∧ s'.heap.get? B = some (methodObj (.ref f) (.ref X)) ∧ s'.heap.get? f = some ⟨fc, fod, .func ffd, fsl⟩ ∧
      ∀ h', But [I] s'.heap h' → Q none { s' with heap := h' }) s) :
    wpAny (model prog w) A (pyNext (.ref I)) Q E s := by
  have hT : s.TypeIs (.ref I) "callable_iterator" := ⟨_, hI, rfl⟩
  unfold pyNext
  refine wpAny_bind (wpAny_attempt (wpAny_callSpecial?_slot (name := Str.ofString "__next__") hT slot_ci_next (wpAny_call_entry slot_ci_next hT entry_ci_next ?_ (args_ci_next _))))
  show wpAny _ _ (field (.ref I) 2 >>= _) _ _ _
  refine wpAny_bind (wpAny_field hI rfl (x := .bool false) rfl ?_)
  show wpAny _ _ (field (.ref I) 0 >>= _) _ _ _
  refine wpAny_bind (wpAny_field hI rfl (x := .ref B) rfl ?_)
  refine wpAny_bind (wpAny_attempt (ci_call hB hf (codeAny_mono h fun r s' hr => ?_)))
  obtain ⟨t', rfl, hI', hB', hf', hq⟩ := hr
  show wpAny _ _ (field (.ref I) 2 >>= _) _ _ _
  refine wpAny_bind (wpAny_field hI' rfl (x := .bool false) rfl ?_)
  show wpAny _ _ (field (.ref I) 1 >>= _) _ _ _
  refine wpAny_bind (wpAny_field hI' rfl (x := .str "" t) rfl ?_)
  refine wpAny_bind (wpAny_holding (eqBool_str ?_))
  have e : (("" : Str) == sx []) = true := by decide
  rw [e]
  refine wpAny_bind (wpAny_rule ?_)
  show wpAny _ _ ((field (.ref I) 0 >>= fun x => slotLetsGo _ x _ >>= _) >>= _) _ _ _
  refine wpAny_bind (wpAny_bind (wpAny_field hI' rfl (x := .ref B) rfl (wpAny_bind ?_)))
  unfold slotLetsGo
  refine wpAny_bind (borrows_method hB' hf' ?_)
  rw [if_pos rfl]
  refine wpAny_pure ?_
  obtain ⟨hh9, gg, dd, tt, oo⟩ := s'
  refine wpAny_bind (wpAny_setField_rec hI' (by simp) fun h₁ he₁ hs₁ => ?_)
  refine wpAny_bind (wpAny_setField_rec he₁ (by simp) fun h₂ he₂ hs₂ => ?_)
  refine wpAny_setField_rec he₂ (by simp) fun h₃ he₃ hs₃ => ?_
  show wpAny _ _ (newExc (.type "StopIteration") [] >>= _) _ _ _
  refine wpAny_bind ?_
  simp only [newExc, newTuple]
  refine wpAny_bind (wpAny_newObj_type ?_ (by size_fits))
  refine wpAny_bind (m := firstArgMember _ _) (wpAny_of_eq (a := Value.none) (by first | rfl | (simp only [firstArgMember]; rfl)) ?_)
  refine wpAny_newObj_type ?_ (by size_fits)
  simp only [raiseNew]
  refine wpAny_bind (wpAny_handled ?_)
  first | rw [show A.in1.handled = none from hh] | rw [hh]
  refine wpAny_bind (wpAny_pure (wpAny_throw ?_))
  refine wpAny_bind (wpAny_isInstance (T := "StopIteration") (b := true) ⟨_, Heap.get?_push_size _ rfl, rfl⟩ isSubtype_stop ?_)
  refine wpAny_pure (hq _ fun b o hb e => ?_)
  have hb' : b ≠ I := fun q => hb (List.mem_singleton.mpr q)
  exact Heap.get?_push_of_some _ (Heap.get?_push_of_some _ (hs₃.extBut _ _ hb' (hs₂.extBut _ _ hb' (hs₁.extBut _ _ hb' e))))
end

end
section
theorem mc_lookup : typeLookup (.type "method") "__call__" = pure (some (.builtin "method.__call__")) := by rw [typeLookup_type, builtinLookup_eq_fast]; kernel_rfl
theorem args_iter2 (a b : Value) : argsOk "iter" ⟨[a, b], []⟩ := by unfold argsOk; kernel_rfl
theorem iter2 {prog : Program} {w : World} {A : Around} {E : Value → Shared → Prop} {s : Shared} {h₀ : Heap} {L B : Addr} {m : Str → Option Value} {news : List (Addr × Obj)} {f X : Value} {t : Tok} {Q : Value → Shared → Prop}
    (F : Fr h₀ L s.heap m) (N : News h₀ L s.heap news) (hm : (B, methodObj f X) ∈ news)
    (h : ∀ (I : Addr) h', Fr h₀ L h' m → News h₀ L h' ((I, ciObj (.ref B) (.str "" t) false) :: news) → (∀ p ∈ news, p.1 < I) → Q (.ref I) { s with heap := h' }) :
    wpAny (model prog w) A (call (.builtin "iter") [.ref B, .str "" t]) Q E s := by
  refine call_function_entry (by decide +kernel) (by decide +kernel) kdk_entry_iter (args_iter2 _ _) ?_
  unfold Builtin.«iter»
  refine wpAny_bind (m := someArgs "iter" 1 2 _) (wpAny_of_eq (a := [Value.ref B, .str "" t]) (by first | rfl | kernel_rfl!) ?_)
  show wpAny _ _ (specialOf (.ref B) "__call__" >>= _) _ _ _
  refine wpAny_bind (wpAny_specialOf (T := "method") ⟨_, (N _ hm).1, rfl⟩ mc_lookup ?_)
  refine wpAny_bind (wpAny_rule ?_)
  exact wpAny_bind (wpAny_newObj_type (wpAny_pure ⟨_, rfl, h _ _ (F.push _) (News.push F N _ rfl) (fun q hq => Heap.lt_size (N q hq).1)⟩) (by size_fits))
theorem slot_ci_iter : Slot "callable_iterator" "__iter__" "callable_iterator.__iter__" :=
  .of (owner := "callable_iterator") (n := "__iter__") (by rw [typeLookup_type, builtinLookup_eq_fast]; kernel_rfl) (by decide +kernel) (by decide +kernel) (by decide +kernel)
    (by first | exact .inl (by decide +kernel) | exact .inr (by decide +kernel)) (by rw [isSubtype_type]; kernel_rfl)
theorem entry_ci_iter : entryFor table "callable_iterator.__iter__" = some Builtin.«dict_keyiterator.__iter__» :=
  entryFor_alias (id' := "dict_keyiterator.__iter__") (by kernel_rfl) rfl (by decide +kernel) (by kernel_rfl)
theorem args_ci_iter (a : Value) : argsOk "callable_iterator.__iter__" ⟨[a], []⟩ := by unfold argsOk; kernel_rfl
theorem pyIter_ci {prog : Program} {w : World} {A : Around} {E : Value → Shared → Prop} {s : Shared} {I : Addr} {o : Obj} {Q : Value → Shared → Prop} (hI : s.heap.get? I = some o) (hc : o.cls = .type "callable_iterator") (h : Q (.ref I) s) :
    wpAny (model prog w) A (pyIter (.ref I)) Q E s := by
  have hT : s.TypeIs (.ref I) "callable_iterator" := ⟨_, hI, hc⟩
  refine wpAny_pyIter_slot hT slot_ci_iter (wpAny_call_entry slot_ci_iter hT entry_ci_iter ?_ (args_ci_iter _))
  show wpAny _ _ (ret (.ref I)) _ _ s
  exact wpAny_pure ⟨_, rfl, "callable_iterator", _, hT, slot_ci_next.lookup, h⟩

end
section
theorem asAr {M : Model} {α : Type} {A : Around} {c : Sem α} {Q : α → Shared → Prop} {E : Value → Shared → Prop} {s : Shared} (h0 : A.handled = none) (h1 : A.depth ≤ 500) (h2 : A.units ≤ 5000)
    (h : ∀ dp un fr gd, dp ≤ 500 → un ≤ 5000 → wpAny M (Ar dp un fr gd) c Q E s) : wpAny M A c Q E s := by
  obtain ⟨_, dp, fr, gd, un⟩ := A
  cases h0
  exact h _ _ _ _ h1 h2
section
variable {prog : Program} {w : World} {A : Around} {E : Value → Shared → Prop} {s : Shared} {env : Env} {h₀ : Heap} {L : Addr} {m : Str → Option Value} {news : List (Addr × Obj)}
  {scope : Scope} {cl : List (Str × Addr)} {x : Str} {ifs : List Expr} {elt : Expr} {Q : Value → Shared → Prop}
/-- over the signs of a string -/
theorem compStr {cs : List Nat} {tc : Tok} {p : Value → Bool} {F : Value → Value → Prop} (hh : A.handled = none) (hsz : cs.length ≤ 4096)
    (q : CompQ prog w A env scope cl x ifs elt (fun v => ∃ c u, v = .str (sx [c]) u) p F s) (F₀ : Fr h₀ L s.heap m) (N : News h₀ L s.heap news)
    (ret : ∀ D ys k h' tk vs, Fr h₀ L h' m → News h₀ L h' ((D, listOf ys k) :: news) → (∀ q ∈ news, q.1 ≠ D) → Words vs (cs.map fun c => [c]) → Paired F (vs.filter p) ys.toList → Ext s.heap h' → s.heap.get? D = none → Q (.ref D) { s with heap := h', toks := tk }) :
    wpAny (model prog w) A (pyIter (.str (sx cs) tc)) (CompPostM prog w A env scope cl x ifs elt p F Q) E s := by
  refine wpAny_pyIter_str fun o St W0 h0 => ?_
  refine ⟨s.heap.objs.size, _, _, cs.length, _, St, rfl, by simpa using W0 A hh, by rw [sizeLine_eq]; omega, h0, ?_, q.quiet ?_, ?_⟩
  · intro b hb
    rw [List.mem_singleton.mp hb]; simp [Heap.size_push]
  · rintro i v ⟨c, u, _, rfl⟩
    exact ⟨c, u, rfl⟩
  · refine compEnd F₀ N fun D ys k h' tk vs F' N' hne hlen hP hF K hD => ret D ys k h' tk vs F' N' hne ?_ hF K hD
    have main : ∀ (cs : List Nat) (vs : List Value), vs.length = cs.length → (∀ (j : Nat) v, vs[j]? = some v → ∃ c u, cs[j]? = some c ∧ v = Value.str (sx [c]) u) → Words vs (cs.map fun c => [c]) := by
      intro cs
      induction cs with
      | nil => intro vs h _; rw [List.length_eq_zero_iff.mp h]; exact .nil
      | cons c cs ih =>
        intro vs h hv
        cases vs with
        | nil => cases h
        | cons v vs =>
          obtain ⟨c', u, e, rfl⟩ := hv 0 v rfl
          cases e
          exact .cons ⟨u, rfl⟩ (ih vs (by simpa using h) fun j v' h' => hv (j + 1) v' h')
    refine main cs vs hlen fun j v h => ?_
    obtain ⟨c, u, e, rfl⟩ := hP j v h
    exact ⟨c, u, by simpa using e, rfl⟩
end
theorem news_fresh {g h h' : Heap} {L D : Addr} {m : Str → Option Value} {news : List (Addr × Obj)} {o : Obj} (F : Fr g L h m) (N : News g L h news) (K : Ext h h') (hD0 : h.get? D = none) (hD : h'.get? D = some o) :
    Fr g L h' m ∧ News g L h' ((D, o) :: news) ∧ ∀ p ∈ news, p.1 ≠ D := by
  obtain ⟨F', N'⟩ := lift2 K F N
  refine ⟨F', fun p hp => ?_, fun p hp e => ?_⟩
  · rcases List.mem_cons.mp hp with rfl | hp
    · refine ⟨hD, ?_, ?_⟩
      · intro q
        obtain ⟨o', _, _, ho, _⟩ := F.ns
        rw [← q] at ho
        rw [ho] at hD0; cases hD0
      · cases q : g.get? D with
        | none => rfl
        | some z => rw [F.keep _ _ q] at hD0; cases hD0
    · exact N' p hp
  · have := (N p hp).1
    rw [e, hD0] at this; cases this

end
section
local macro_rules | `(tactic| walk_at "call ref") => `(tactic| (k_here; (with_reducible show wpAny _ _ (call (Value.ref 63) [Value.int _ _, Value.int _ _]) _ _ _); k_dflt (refine' Mine.c_sub _ _ _ _ _ _ _ _ _ _ _ _ ?G ?d ?u ?_; (case G => exact Mine.Gd.keeps (by assumption) (Fr.keep (by k_asm))); (case d => omega); (case u => omega)); intro h' t' tk' K'; (have kz := Mine.lift2 K' (by k_asm) (by k_asm)); (obtain ⟨F', N'⟩ := kz); (try k_sweep)))
local macro_rules | `(tactic| walk_at "call ref") => `(tactic| (k_here; (with_reducible show wpAny _ _ (call (Value.ref 28) [Value.int _ _, Value.int _ _]) _ _ _); k_dflt (refine' Mine.c_floordiv _ _ _ _ _ _ _ _ _ _ _ _ ?y ?z ?G ?d ?u ?_; (case y => omega); (case z => omega); (case G => exact Mine.Gd.keeps (by assumption) (Fr.keep (by k_asm))); (case d => omega); (case u => omega)); intro h' t' tk' K'; (have kz := Mine.lift2 K' (by k_asm) (by k_asm)); (obtain ⟨F', N'⟩ := kz); (try k_sweep)))
local macro_rules | `(tactic| walk_at "call ref") => `(tactic| (k_here; (with_reducible show wpAny _ _ (call (Value.ref 42) [Value.int _ _, Value.int _ _]) _ _ _); k_dflt (refine' Mine.c_mod _ _ _ _ _ _ _ _ _ _ _ _ ?y ?z ?G ?d ?u ?_; (case y => omega); (case z => omega); (case G => exact Mine.Gd.keeps (by assumption) (Fr.keep (by k_asm))); (case d => omega); (case u => omega)); intro h' t' tk' K'; (have kz := Mine.lift2 K' (by k_asm) (by k_asm)); (obtain ⟨F', N'⟩ := kz); (try k_sweep)))
local macro_rules | `(tactic| walk_at "call ref") => `(tactic| (k_here; (with_reducible show wpAny _ _ (call (Value.ref 49) [Value.int _ _, Value.int _ _]) _ _ _); k_dflt (refine' Mine.c_mulI _ _ _ _ _ _ _ _ _ _ _ _ ?y ?z ?G ?d ?u ?_; (case y => omega); (case z => omega); (case G => exact Mine.Gd.keeps (by assumption) (Fr.keep (by k_asm))); (case d => omega); (case u => omega)); intro h' t' tk' K'; (have kz := Mine.lift2 K' (by k_asm) (by k_asm)); (obtain ⟨F', N'⟩ := kz); (try k_sweep)))
local macro_rules | `(tactic| walk_at "call ref") => `(tactic| (k_here; (with_reducible show wpAny _ _ (call (Value.ref 49) [Value.str (Mine.sx _) _, Value.int _ _]) _ _ _); k_dflt (refine' Mine.c_mulS _ _ _ _ _ _ _ _ _ _ _ _ ?y ?z ?G ?d ?u ?_; (case y => first | omega | (simp only [List.length_cons, List.length_nil, List.length_take]; omega)); (case z => omega); (case G => exact Mine.Gd.keeps (by assumption) (Fr.keep (by k_asm))); (case d => omega); (case u => omega)); intro h' t' tk' K'; (have kz := Mine.lift2 K' (by k_asm) (by k_asm)); (obtain ⟨F', N'⟩ := kz); (try k_sweep)))
local macro_rules | `(tactic| walk_at "call ref") => `(tactic| (k_here; (with_reducible show wpAny _ _ (call (Value.ref 21) [Value.str (Mine.sx _) _, Value.str (Mine.sx _) _]) _ _ _); k_dflt (refine' Mine.c_addX _ _ _ _ _ _ _ _ _ _ _ _ ?z ?G ?d ?u ?_; (case z => first | omega | assumption | (simp only [List.length_append, List.length_cons, List.length_nil, List.length_take, List.length_drop, Mine.len_rep]; first | omega | assumption)); (case G => exact Mine.Gd.keeps (by assumption) (Fr.keep (by k_asm))); (case d => omega); (case u => omega)); intro h' t' tk' K'; (have kz := Mine.lift2 K' (by k_asm) (by k_asm)); (obtain ⟨F', N'⟩ := kz); (try k_sweep)))
local macro_rules | `(tactic| walk_at "call ref") => `(tactic| (k_here; (with_reducible show wpAny _ _ (call (Value.ref 70) [Value.str (Mine.sx _) _, Value.str (Mine.sx _) _]) _ _ _); k_dflt (refine' Mine.c_contains _ _ _ _ _ _ _ _ _ _ _ _ ?z ?G ?d ?u ?_; (case z => first | omega | (simp only [Mine.sx_len, List.length_append, List.length_cons, List.length_nil, List.length_take, List.length_drop]; omega)); (case G => exact Mine.Gd.keeps (by assumption) (Fr.keep (by k_asm))); (case d => omega); (case u => omega)); intro h' tk' K'; (have kz := Mine.lift2 K' (by k_asm) (by k_asm)); (obtain ⟨F', N'⟩ := kz); (try k_sweep)))
local macro_rules | `(tactic| walk_at "call ref") => `(tactic| (k_here; (with_reducible show wpAny _ _ (call (Value.ref 143) _) _ _ _); refine Mine.Stop.out ?_))
local macro_rules | `(tactic| walk_at "call ref") => `(tactic| (k_here; (with_reducible show wpAny _ _ (call (Value.ref 138) _) _ _ _); refine Mine.Stop.out ?_))
section
theorem pw_f {p : Bool} {X : List Int} (h : (p != !decide (X = [])) = false) : p = decide (X ≠ []) := by
  by_cases e : X = [] <;> cases p <;> simp_all
theorem pw_t {p : Bool} {X : List Int} (h : (p != !decide (X = [])) = true) : ¬ p = decide (X ≠ []) := by
  by_cases e : X = [] <;> cases p <;> simp_all
theorem shiftsI_mem {x : List Nat} {k : Int} (h : k ∈ shiftsI x) : 0 < k ∧ k < x.length := by
  obtain ⟨i, hi, rfl⟩ := List.mem_map.mp (List.mem_filter.mp h).1
  have := List.mem_range.mp hi
  omega
noncomputable def twinF : Nat → List Int → Int → Nat → Nat → List Nat
  | 0, _, _, _, _ => []
  | _ + 1, [], size, hi, lo => [hi] ++ (List.replicate (size - 1).toNat [lo]).flatten
  | n + 1, step :: S', size, hi, lo =>
    if 1 < size / step then
      let core := twinF n (((step :: S').filter fun p => decide (step * (size / step - 1) < p)).map (· - step * (size / step - 1))) (step + size % step) hi lo
      (List.replicate (size / step).toNat (core.take step.toNat)).flatten ++ core.take (size % step).toNat
    else
      let side := twinF n (((step :: S').filter fun p => decide (step < p)).map (· - step)) (size % step) hi lo
      let root := side ++ (List.replicate (step - size % step).toNat [lo]).flatten
      let power := Txt.contains (sx (((root ++ root).drop 1).take ((root ++ root).length - 2))) (sx root)
      if power = decide ((shiftsI root).filter (fun q => step % q = 0) ≠ []) then
        (if power then side ++ (List.replicate (step - size % step - 1).toNat [lo]).flatten ++ [hi] else root) ++ side
      else []

theorem twinF_len : ∀ (n : Nat) (S : List Int) (size : Int) (hi lo : Nat), 1 ≤ size → (∀ k ∈ S, 0 < k ∧ k < size) → ((twinF n S size hi lo).length : Int) ≤ size := by
  intro n
  induction n with
  | zero => intro S size hi lo h _; simp [twinF]; omega
  | succ n ih =>
    intro S size hi lo h hS
    cases S with
    | nil => simp [twinF]; omega
    | cons step S' =>
      have hst := hS step (.head _)
      have hr0 := Int.emod_nonneg size (show step ≠ 0 by omega)
      have hr1 := Int.emod_lt_of_pos size hst.1
      have hsum := Int.mul_ediv_add_emod size step
      have hq1 : 1 ≤ size / step := (Int.le_ediv_iff_mul_le hst.1).mpr (by omega)
      simp only [twinF]
      split
      · simp only [List.length_append, len_rep, List.length_take]
        have a1 : (size / step).toNat * min step.toNat (twinF n (List.map (fun x => x - step * (size / step - 1)) (List.filter (fun p => decide (step * (size / step - 1) < p)) (step :: S'))) (step + size % step) hi lo).length ≤ (size / step).toNat * step.toNat := Nat.mul_le_mul_left _ (Nat.min_le_left _ _)
        have a2 : (((size / step).toNat * step.toNat : Nat) : Int) = step * (size / step) := by
          rw [Int.natCast_mul, Int.toNat_of_nonneg (by omega), Int.toNat_of_nonneg (by omega), Int.mul_comm]
        omega
      · have hone : size / step = 1 := by omega
        rw [hone] at hsum
        have hs := ih (((step :: S').filter fun p => decide (step < p)).map (· - step)) (size % step) hi lo (by omega) (by
          intro k hk
          obtain ⟨p, hp, rfl⟩ := List.mem_map.mp hk
          have h1 := hS p (List.mem_filter.mp hp).1
          have h2 := of_decide_eq_true (List.mem_filter.mp hp).2
          constructor <;> omega)
        split
        · split <;> simp only [List.length_append, len_rep, List.length_cons, List.length_nil] <;> omega
        · simp; omega
noncomputable def TwinOk (w : World) (n : Nat) : Prop := ∀ (S : List Int) (size : Int) (hi lo : Nat) (l : Addr) (vs : List Value) (ts th tl : Tok) (dp un : Nat) (fr : Option (List Env)) (gd : Option (List Code)) (s : Shared) (Q E : Value → Shared → Prop),
  S.length < n → IntsAre vs S → s.heap.IsList l vs.toArray → 1 ≤ size ∧ size ≤ 12 → (∀ k ∈ S, 0 < k ∧ k < size) → Gd w s.heap → dp + 10 + n < 1000 → un + 200 + 5 * n < 9900 →
  (∀ h' t' tk', Ext s.heap h' → Q (.str (sx (twinF n S size hi lo)) t') { s with heap := h', toks := tk' }) →
  wpAny (model PySem.Challenge.rw_sw0018_01.row.prog w) (Ar dp un fr gd) (call (.ref 143) [.ref l, .int size ts, .str (sx [hi]) th, .str (sx [lo]) tl]) Q E s

set_option maxHeartbeats 8000000 in
theorem c_twin_step (w : World) (n : Nat) (IH : TwinOk w n) : TwinOk w (n + 1) := by
  intro S size hi lo l vs ts th tl dp un fr gd s Q E hlen hI hl hsz hS G hdp hun ret
  w_on
  have KX := G.X
  obtain ⟨p, loose, mg, mb, T⟩ := G.T
  revert KX
  k_fill
  intro KX
  refine' enterC (binds := [("shifts", .ref l), ("size", .int size ts), ("high", .str (sx [hi]) th), ("low", .str (sx [lo]) tl)]) (fun _ _ e => e) (Nat.le_refl _) G ?room ?ho ?hcd ?hb ?hkind ?hnd ?k1 ?k2 ?k3 ?_
  case room => simp only [recursionLimit]; omega
  case ho => k_is
  case hcd => k_is
  case hb => exact BindsTo.of_eq rfl
  case hkind => exact rfl
  case hnd => decide +kernel
  case k1 => exact rfl
  case k2 => exact rfl
  case k3 => exact rfl
  intro L h₁ tk cells fr' hL F N Y K1
  k_cells Y
  obtain ⟨m, F, H⟩ : ∃ m, Fr s.heap L h₁ m ∧ Has m [("low", .str (sx [lo]) tl), ("high", .str (sx [hi]) th), ("size", .int size ts), ("shifts", .ref l)] :=
    ⟨_, F, by with_unfolding_all exact ((((Has.of_lookup []).put "shifts" (.ref l)).put "size" (.int size ts)).put "high" (.str (sx [hi]) th)).put "low" (.str (sx [lo]) tl)⟩
  (try k_unmd)
  k_fold
  cases S with
  | nil =>
    k_steps
    repeat (k_unfold; try dsimp only)
    rename Fr _ _ _ _ => F9
    exact ret _ _ _ F9.keep
  | cons step S' =>
    have hst := hS step (.head _)
    have hr0 := Int.emod_nonneg size (show step ≠ 0 by omega)
    have hr1 := Int.emod_lt_of_pos size hst.1
    have hsum := Int.mul_ediv_add_emod size step
    have hq1 : 1 ≤ size / step := (Int.le_ediv_iff_mul_le hst.1).mpr (by omega)
    have hq2 : size / step ≤ 12 := Int.le_trans (Int.ediv_le_self _ (by omega)) hsz.2
    have hb0 : 0 ≤ step * (size / step - 1) := Int.mul_nonneg (by omega) (by omega)
    have hb1 : step * (size / step - 1) = size - size % step - step := by rw [Int.mul_sub]; omega
    obtain ⟨t0, vs', e0, hI'⟩ : ∃ t0 vs', vs = .int step t0 :: vs' ∧ IntsAre vs' S' := by
      cases hI with
      | cons n t h => exact ⟨t, _, rfl, h⟩
    subst e0
    k_steps
    · cases (‹decide (step :: S' = []) = true› : _)
    · -- times > 1
      rename 1 < size / step => q1
      have hq3 : step * 1 ≤ step * (size / step - 1) := Int.mul_le_mul_of_nonneg_left (by omega) (by omega)
      refine Stop.mk ?_
      have cm : CompMark [("back", L + 1 + 1)] (fun v => match v with | .int k _ => decide (step * (size / step - 1) < k) | _ => false) (fun v y => ∃ k t t', v = .int k t ∧ y = .int (k - step * (size / step - 1)) t') := trivial
      k_steps
      clear cm
      rename Fr _ _ _ _ => F9
      rename News _ _ _ _ => N9
      rename Has _ _ => H9
      rename Obj.data _ = Data.cell _ => dat
      refine Stop.mk ?_
      refine' compList rfl ?hl ?hsz (CompQ.weaken (compq_sub rfl rfl rfl rfl ?q) ?wk) F9 N9 ?ret
      case hl => exact hl.at (F9.keep _)
      case wk => exact fun v hv => let ⟨k, t, e, _⟩ := ints_mem hI v hv; ⟨k, t, e⟩
      case hsz => have := hI.length; simp only [List.length_cons] at *; simp; omega
      case q => exact ⟨_, (N9 (L + 1 + 1, _) (by k_mem)).1, dat⟩
      intro D ys k h' tk F' N' hne hP K hD
      have hI2 := paired_ints (fun k => decide (step * (size / step - 1) < k)) (fun k => k - step * (size / step - 1)) hI hP
      k_steps
      rename Fr _ _ _ _ => F9
      rename News _ _ _ _ => N9
      refine Stop.mk ?_
      refine' IH (((step :: S').filter fun p => decide (step * (size / step - 1) < p)).map (· - step * (size / step - 1))) (step + size % step) hi lo D ys.toList _ th tl _ _ _ _ _ _ _ ?len hI2 ?isl ?sz ?mem ?G ?d ?u ?_
      case len =>
        rw [List.length_map, List.filter_cons_of_neg (by simp; omega)]
        have := List.length_filter_le (fun p => decide (step * (size / step - 1) < p)) S'
        simp only [List.length_cons] at hlen; omega
      case isl => exact ⟨_, (N9 (D, _) (by k_mem)).1, rfl, _, rfl⟩
      case sz => omega
      case mem =>
        intro k hk
        obtain ⟨p, hp, rfl⟩ := List.mem_map.mp hk
        have h1 := hS p (List.mem_filter.mp hp).1
        have h2 := of_decide_eq_true (List.mem_filter.mp hp).2
        constructor <;> omega
      case G => exact G.keeps F9.keep
      case d => omega
      case u => omega
      intro h' t' tk' K'
      obtain ⟨F', N'⟩ := lift2 K' F9 N9
      have hcl := twinF_len n (((step :: S').filter fun p => decide (step * (size / step - 1) < p)).map (· - step * (size / step - 1))) (step + size % step) hi lo (by omega) (by
        intro k hk
        obtain ⟨p, hp, rfl⟩ := List.mem_map.mp hk
        have h1 := hS p (List.mem_filter.mp hp).1
        have h2 := of_decide_eq_true (List.mem_filter.mp hp).2
        constructor <;> omega)
      obtain ⟨core, hcore⟩ : ∃ c, c = twinF n (((step :: S').filter fun p => decide (step * (size / step - 1) < p)).map (· - step * (size / step - 1))) (step + size % step) hi lo := ⟨_, rfl⟩
      rw [← hcore] at hcl ⊢
      have hA : (size / step).toNat * min step.toNat core.length + min (size % step).toNat core.length ≤ 4096 := by
        have := Nat.mul_le_mul (show (size / step).toNat ≤ 12 by omega) (show min step.toNat core.length ≤ 12 by omega)
        omega
      k_steps
      repeat (k_unfold; try dsimp only)
      rename Fr _ _ _ _ => F9
      have e : twinF (n + 1) (step :: S') size hi lo = (List.replicate (size / step).toNat (List.take step.toNat core)).flatten ++ List.take (size % step).toNat core := by
        simp only [twinF]
        rw [if_pos q1, hcore]
      rw [e] at ret
      exact ret _ _ _ F9.keep
    · rename ¬ 1 < size / step => q1
      have hone : size / step = 1 := by omega
      rw [hone] at hsum
      refine Stop.mk ?_
      have cm : CompMark [("step", L + 1)] (fun v => match v with | .int k _ => decide (step < k) | _ => false) (fun v y => ∃ k t t', v = .int k t ∧ y = .int (k - step) t') := trivial
      k_steps
      clear cm
      rename Fr _ _ _ _ => F9
      rename News _ _ _ _ => N9
      rename Obj.data _ = Data.cell (some (Value.int step _)) => dat
      refine Stop.mk ?_
      refine' compList rfl ?hl2 ?hsz2 (CompQ.weaken (compq_sub rfl rfl rfl rfl ?q2) ?wk2) F9 N9 ?ret2
      case hl2 => exact hl.at (F9.keep _)
      case wk2 => exact fun v hv => let ⟨k, t, e, _⟩ := ints_mem hI v hv; ⟨k, t, e⟩
      case hsz2 => have := hI.length; simp only [List.length_cons] at *; simp; omega
      case q2 => exact ⟨_, (N9 (L + 1, _) (by k_mem)).1, dat⟩
      intro D ys k h' tk F' N' hne hP K hD
      have hI2 := paired_ints (fun k => decide (step < k)) (fun k => k - step) hI hP
      k_steps
      rename Fr _ _ _ _ => F9
      rename News _ _ _ _ => N9
      refine Stop.mk ?_
      refine' IH (((step :: S').filter fun p => decide (step < p)).map (· - step)) (size % step) hi lo D ys.toList _ th tl _ _ _ _ _ _ _ ?len2 hI2 ?isl2 ?sz2 ?mem2 ?G2 ?d2 ?u2 ?_
      case len2 =>
        rw [List.length_map, List.filter_cons_of_neg (by simp)]
        have := List.length_filter_le (fun p => decide (step < p)) S'
        simp only [List.length_cons] at hlen; omega
      case isl2 => exact ⟨_, (N9 (D, _) (by k_mem)).1, rfl, _, rfl⟩
      case sz2 => omega
      case mem2 =>
        intro k hk
        obtain ⟨p, hp, rfl⟩ := List.mem_map.mp hk
        have h1 := hS p (List.mem_filter.mp hp).1
        have h2 := of_decide_eq_true (List.mem_filter.mp hp).2
        constructor <;> omega
      case G2 => exact G.keeps F9.keep
      case d2 => omega
      case u2 => omega
      intro h' t' tk' K'
      obtain ⟨F', N'⟩ := lift2 K' F9 N9
      have hcl := twinF_len n (((step :: S').filter fun p => decide (step < p)).map (· - step)) (size % step) hi lo (by omega) (by
        intro k hk
        obtain ⟨p, hp, rfl⟩ := List.mem_map.mp hk
        have h1 := hS p (List.mem_filter.mp hp).1
        have h2 := of_decide_eq_true (List.mem_filter.mp hp).2
        constructor <;> omega)
      obtain ⟨side, hside⟩ : ∃ c, c = twinF n (((step :: S').filter fun p => decide (step < p)).map (· - step)) (size % step) hi lo := ⟨_, rfl⟩
      rw [← hside] at hcl ⊢
      have hg : (List.replicate (step - size % step).toNat [lo]).flatten.length = (step - size % step).toNat := by simp
      have hg1 : (List.replicate (step - size % step - 1).toNat [lo]).flatten.length = (step - size % step - 1).toNat := by simp
      k_steps
      rename Fr _ _ _ _ => F9
      rename News _ _ _ _ => N9
      rename Has _ _ => H9
      rename Obj.data _ = Data.cell (some (Value.int step _)) => dat
      have hsl : 1 ≤ (side ++ (List.replicate (step - size % step).toNat [lo]).flatten).length ∧ (side ++ (List.replicate (step - size % step).toNat [lo]).flatten).length ≤ 12 := by
        rw [List.length_append, hg]; omega
      generalize hroot : side ++ (List.replicate (step - size % step).toNat [lo]).flatten = root at H9 hsl ⊢
      generalize hpw : Txt.contains (sx (List.take ((root ++ root).length - 2) (List.drop 1 (root ++ root)))) (sx root) = power at H9 ⊢
      refine Stop.mk ?_
      have cm : CompMark [("step", L + 1)] (fun v => match v with | .int k _ => decide (step % k = 0) | _ => false) (fun v y => y = v) := trivial
      k_steps
      clear cm
      refine Stop.mk ?_
      rename Fr _ _ _ _ => F9
      rename News _ _ _ _ => N9
      refine' c_shifts _ _ _ ?x3 _ _ _ _ _ _ _ ?G3 ?d3 ?u3 ?_
      case x3 => omega
      case G3 => exact G.keeps F9.keep
      case d3 => omega
      case u3 => omega
      intro D3 ys3 k3 h' tk' K' hD3 hg3 hI3
      obtain ⟨F', N'⟩ := lift2 K' F9 N9
      k_steps
      rename Fr _ _ _ _ => F9
      rename News _ _ _ _ => N9
      refine Stop.mk ?_
      refine' compList rfl ?hl4 ?hsz4 (CompQ.weaken (compq_mod rfl rfl rfl rfl ?q4) ?wk4) F9 N9 ?ret4
      case hl4 => exact ⟨_, hg3, rfl, _, rfl⟩
      case wk4 => exact fun v hv => let ⟨k, t, e, hk⟩ := ints_mem hI3 v hv; ⟨k, t, e, (shiftsI_mem hk).1⟩
      case hsz4 => 
        have h1 := hI3.length
        have h2 : (shiftsI root).length ≤ root.length - 1 := by
          have := List.length_filter_le (fun k : Int => decide (root.drop k.toNat = root.take (root.length - k.toNat))) ((List.range (root.length - 1)).map fun i => (1 : Int) + (i : Nat))
          simpa [shiftsI] using this
        rw [← Array.length_toList]; omega
      case q4 => exact ⟨_, (N9 (L + 1, _) (by k_mem)).1, dat⟩
      intro D4 ys4 k4 h' tk F' N' hne4 hP4 K4 hD4
      have hI4 := paired_same (fun k => decide (step % k = 0)) hI3 hP4
      have e : twinF (n + 1) (step :: S') size hi lo = if power = decide ((shiftsI root).filter (fun q => decide (step % q = 0)) ≠ []) then
          (if power then side ++ (List.replicate (step - size % step - 1).toNat [lo]).flatten ++ [hi] else root) ++ side else [] := by
        simp only [twinF]
        rw [if_neg q1, ← hside, hroot, hpw]
      k_steps
      · rename (power != _) = true => q2
        repeat (k_unfold; try dsimp only)
        rename Fr _ _ _ _ => F9
        rw [e, if_neg] at ret
        · exact ret _ _ _ F9.keep
        · exact pw_t q2
      · rename (power != _) = false => q2
        rename power = true => q3
        repeat (k_unfold; try dsimp only)
        rename Fr _ _ _ _ => F9
        rw [e, if_pos, if_pos q3] at ret
        · exact ret _ _ _ F9.keep
        · exact pw_f q2
      · rename (power != _) = false => q2
        rename power = false => q3
        repeat (k_unfold; try dsimp only)
        rename Fr _ _ _ _ => F9
        rw [e, if_pos, if_neg (by rw [q3]; decide)] at ret
        · exact ret _ _ _ F9.keep
        · exact pw_f q2
theorem c_twin (w : World) : ∀ n, TwinOk w n := by
  intro n
  induction n with
  | zero => intro S _ _ _ _ _ _ _ _ _ _ _ _ _ _ _ h; exact absurd h (Nat.not_lt_zero _)
  | succ n ih => exact c_twin_step w n ih

end
section
noncomputable def uptoI (n : Nat) : List Int := (List.range (n - 1)).map fun i => (1 : Int) + (i : Nat)
theorem mem_uptoI {n : Nat} {v : Int} : v ∈ uptoI n ↔ 0 < v ∧ v < n := by
  unfold uptoI
  rw [List.mem_map]
  constructor
  · rintro ⟨i, hi, rfl⟩
    have := List.mem_range.mp hi
    omega
  · rintro ⟨h1, h2⟩
    exact ⟨(v - 1).toNat, List.mem_range.mpr (by omega), by omega⟩
theorem uptoI_succ (k : Nat) (h : 1 ≤ k) : uptoI (k + 1) = uptoI k ++ [(k : Int)] := by
  unfold uptoI
  obtain ⟨j, rfl⟩ : ∃ j, k = j + 1 := ⟨k - 1, by omega⟩
  simp only [Nat.add_sub_cancel, List.range_succ, List.map_append, List.map_cons, List.map_nil]
  congr 2
  omega
noncomputable def ok0 (S : List Int) (k : Int) : Bool := !((0 :: S).any fun p => S.any fun q => decide (p < q) && decide (2 * q - p = k))
noncomputable def ok1 (n : Nat) (S : List Int) (k : Int) : Bool := (0 :: S).all fun p => S.all fun u => !(decide (p < u) && decide ((u - p) + (k - p) ≤ ((n : Int) - p) + (Nat.gcd (u - p).toNat (k - p).toNat : Nat))) || S.contains (p + (Nat.gcd (u - p).toNat (k - p).toNat : Nat))
noncomputable def go (n : Nat) : Nat → Nat → List Int → (List Int → Bool) → Bool
  | 0, _, S, f => f S
  | c + 1, k, S, f => (!ok0 S k || go n c (k + 1) S f) && (!ok1 n S k || go n c (k + 1) (S ++ [(k : Int)]) f)
theorem go_spec (n : Nat) (P : Int → Bool) (f : List Int → Bool) (H0 : ∀ k : Nat, 1 ≤ k → k < n → P k = false → ok0 ((uptoI k).filter P) k = true) (H1 : ∀ k : Nat, 1 ≤ k → k < n → P k = true → ok1 n ((uptoI k).filter P) k = true) :
    ∀ c k : Nat, 1 ≤ k → k + c = n → go n c k ((uptoI k).filter P) f = true → f ((uptoI n).filter P) = true
  | 0, k, _, e, h => by
    obtain rfl : k = n := by omega
    exact h
  | c + 1, k, h1, e, h => by
    simp only [go, Bool.and_eq_true, Bool.or_eq_true, Bool.not_eq_true'] at h
    obtain ⟨a, b⟩ := h
    by_cases hp : P k = true
    · rcases b with b | b
      · rw [H1 k h1 (by omega) hp] at b; cases b
      · refine go_spec n P f H0 H1 c (k + 1) (by omega) (by omega) ?_
        rw [uptoI_succ k h1, List.filter_append, List.filter_cons_of_pos hp]
        exact b
    · rcases a with a | a
      · rw [H0 k h1 (by omega) (by simpa using hp)] at a; cases a
      · refine go_spec n P f H0 H1 c (k + 1) (by omega) (by omega) ?_
        rw [uptoI_succ k h1, List.filter_append, List.filter_cons_of_neg hp, List.filter_nil, List.append_nil]
        exact a
noncomputable def pairs7 : List (Nat × Nat) := [(97, 34), (34, 32), (32, 92), (92, 10), (10, 35), (35, 9), (9, 97)]
noncomputable def goodT (n : Nat) (S : List Int) (c : Nat × Nat) : Bool := (twinF 13 S n c.1 c.2).length == n && shiftsI (twinF 13 S n c.1 c.2) == S
/-- the letters do not matter -/
noncomputable def sg (hi lo : Nat) (c : Nat) : Nat := if c = 97 then hi else lo
noncomputable def AB (x : List Nat) : Prop := ∀ c ∈ x, c = 97 ∨ c = 34
theorem map_inj_AB {hi lo : Nat} (h : hi ≠ lo) : ∀ {x y : List Nat}, AB x → AB y → x.map (sg hi lo) = y.map (sg hi lo) → x = y
  | [], [], _, _, _ => rfl
  | [], b :: y, _, _, e => by simp at e
  | a :: x, [], _, _, e => by simp at e
  | a :: x, b :: y, hx, hy, e => by
    rw [List.map_cons, List.map_cons] at e
    obtain ⟨e1, e2⟩ := List.cons.inj e
    have := map_inj_AB h (fun c hc => hx c (.tail _ hc)) (fun c hc => hy c (.tail _ hc)) e2
    subst this
    have e3 : a = b := by
      rcases hx a (.head _) with rfl | rfl <;> rcases hy b (.head _) with rfl | rfl
      · rfl
      · exact absurd e1 h
      · exact absurd e1.symm h
      · rfl
    rw [e3]
theorem map_eq_iff {hi lo : Nat} (h : hi ≠ lo) {x y : List Nat} (hx : AB x) (hy : AB y) : (x.map (sg hi lo) = y.map (sg hi lo)) = (x = y) :=
  propext ⟨map_inj_AB h hx hy, fun e => by rw [e]⟩
theorem AB.take {x : List Nat} (h : AB x) (k : Nat) : AB (x.take k) := fun c hc => h c (List.mem_of_mem_take hc)
theorem AB.drop {x : List Nat} (h : AB x) (k : Nat) : AB (x.drop k) := fun c hc => h c (List.mem_of_mem_drop hc)
theorem AB.app {x y : List Nat} (h : AB x) (h' : AB y) : AB (x ++ y) := fun c hc => (List.mem_append.mp hc).elim (h c) (h' c)
theorem AB.rep {x : List Nat} (h : AB x) (k : Nat) : AB (List.replicate k x).flatten := fun c hc => by
  obtain ⟨l, hl, hc⟩ := List.mem_flatten.mp hc
  rw [List.eq_of_mem_replicate hl] at hc
  exact h c hc
theorem shiftsI_map {hi lo : Nat} (h : hi ≠ lo) {x : List Nat} (hx : AB x) : shiftsI (x.map (sg hi lo)) = shiftsI x := by
  unfold shiftsI
  rw [List.length_map]
  congr 1
  funext k
  rw [← List.map_drop, ← List.map_take]
  exact decide_eq_decide.mpr (Iff.of_eq (map_eq_iff h (hx.drop _) (hx.take _)))
section
open Builtin Builtin.Str StrLaws
theorem contains_map {hi lo : Nat} (h : hi ≠ lo) {x y : List Nat} (hx : AB x) (hy : AB y) : Txt.contains (sx (x.map (sg hi lo))) (sx (y.map (sg hi lo))) = Txt.contains (sx x) (sx y) := by
  have key : ∀ i, subAt (sx (x.map (sg hi lo))) (sx (y.map (sg hi lo))) i = subAt (sx x) (sx y) i := by
    intro i
    rw [subAt_eq, subAt_eq, sx_cps, sx_cps, sx_cps, sx_cps, sx_len, sx_len, List.length_map, ← List.map_drop, ← List.map_take]
    have := map_eq_iff h ((hx.drop i).take y.length) hy
    rw [Bool.eq_iff_iff, beq_iff_eq, beq_iff_eq]
    exact Iff.of_eq this
  have hl : (sx (y.map (sg hi lo))).length = (sx y).length := by rw [sx_len, sx_len, List.length_map]
  have hlx : (sx (x.map (sg hi lo))).length = (sx x).length := by rw [sx_len, sx_len, List.length_map]
  show (!(occurrences _ _ 0 (sx (x.map (sg hi lo))).length 1).isEmpty) = (!(occurrences _ _ 0 (sx x).length 1).isEmpty)
  rw [hlx, occ_eq, occ_eq]
  have e : occBody (sx (x.map (sg hi lo))) (sx (y.map (sg hi lo))) (sx x).length 1 = occBody (sx x) (sx y) (sx x).length 1 := by
    funext i st
    unfold occBody
    rw [key i, hl]
  rw [e]
end
theorem twinF_map {hi lo : Nat} (h : hi ≠ lo) : ∀ (n : Nat) (S : List Int) (size : Int), AB (twinF n S size 97 34) ∧ twinF n S size hi lo = (twinF n S size 97 34).map (sg hi lo)
  | 0, S, size => ⟨fun c hc => by simp [twinF] at hc, rfl⟩
  | n + 1, [], size => by
    have r34 : AB [34] := fun c hc => .inr (List.mem_singleton.mp hc)
    have r97 : AB [97] := fun c hc => .inl (List.mem_singleton.mp hc)
    refine ⟨r97.app (r34.rep _), ?_⟩
    simp only [twinF, List.map_append, List.map_flatten, List.map_replicate, List.map_cons, List.map_nil]
    rfl
  | n + 1, step :: S', size => by
    have r34 : AB [34] := fun c hc => .inr (List.mem_singleton.mp hc)
    have r97 : AB [97] := fun c hc => .inl (List.mem_singleton.mp hc)
    have s1 : sg hi lo 97 = hi := rfl
    have s2 : sg hi lo 34 = lo := rfl
    unfold twinF
    split
    · obtain ⟨a, e⟩ := twinF_map h n (((step :: S').filter fun p => decide (step * (size / step - 1) < p)).map (· - step * (size / step - 1))) (step + size % step)
      dsimp only
      rw [e]
      refine ⟨((a.take _).rep _).app (a.take _), ?_⟩
      simp only [List.map_append, List.map_flatten, List.map_replicate, List.map_take]
    · obtain ⟨a, e⟩ := twinF_map h n (((step :: S').filter fun p => decide (step < p)).map (· - step)) (size % step)
      dsimp only
      rw [e]
      obtain ⟨side, hside⟩ : ∃ x, x = twinF n (((step :: S').filter fun p => decide (step < p)).map (· - step)) (size % step) 97 34 := ⟨_, rfl⟩
      rw [← hside] at a ⊢
      obtain ⟨root, hroot⟩ : ∃ x, x = side ++ (List.replicate (step - size % step).toNat [34]).flatten := ⟨_, rfl⟩
      have ar : AB root := by rw [hroot]; exact a.app (r34.rep _)
      have er : side.map (sg hi lo) ++ (List.replicate (step - size % step).toNat [lo]).flatten = root.map (sg hi lo) := by
        rw [hroot]
        simp only [List.map_append, List.map_flatten, List.map_replicate, List.map_cons, List.map_nil, s2]
      rw [er, ← hroot]
      have ep : Txt.contains (sx (((root.map (sg hi lo) ++ root.map (sg hi lo)).drop 1).take ((root.map (sg hi lo) ++ root.map (sg hi lo)).length - 2))) (sx (root.map (sg hi lo))) = Txt.contains (sx (((root ++ root).drop 1).take ((root ++ root).length - 2))) (sx root) := by
        rw [← List.map_append, ← List.map_drop, List.length_map, ← List.map_take]
        exact contains_map h (((ar.app ar).drop 1).take _) ar
      rw [ep, shiftsI_map h ar]
      split
      · split
        · refine ⟨((a.app (r34.rep _)).app r97).app a, ?_⟩
          simp only [List.map_append, List.map_flatten, List.map_replicate, List.map_cons, List.map_nil, s1, s2]
        · refine ⟨ar.app a, ?_⟩
          simp only [List.map_append]
      · exact ⟨fun c hc => (nomatch hc), rfl⟩
noncomputable def chk (n : Nat) : Bool := go n (n - 1) 1 [] fun S => goodT n S (97, 34)
theorem chk_small : ((List.range 12).map (· + 1)).all chk = true := by decide +kernel
theorem good_all {n : Nat} {S : List Int} (g : goodT n S (97, 34) = true) {hi lo : Nat} (h : hi ≠ lo) : goodT n S (hi, lo) = true := by
  unfold goodT at g ⊢
  rw [Bool.and_eq_true, beq_iff_eq, beq_iff_eq] at g ⊢
  obtain ⟨a, e⟩ := twinF_map h 13 S n
  dsimp only at g ⊢
  rw [e, List.length_map, shiftsI_map h a]
  exact g
theorem pairs_ne {hi lo : Nat} (h : (hi, lo) ∈ pairs7) : hi ≠ lo := by
  simp only [pairs7, List.mem_cons, Prod.mk.injEq, List.not_mem_nil, or_false] at h
  omega

end
section
/-- periods -/
noncomputable def Per (f : Nat → Option Nat) (n k : Nat) : Prop := ∀ i, i + k < n → f (i + k) = f i
theorem Per.mul {f : Nat → Option Nat} {n g : Nat} (h : Per f n g) : ∀ k j, j + k * g < n → f (j + k * g) = f j
  | 0, j, _ => by rw [Nat.zero_mul, Nat.add_zero]
  | k + 1, j, hj => by
    have e : j + (k + 1) * g = (j + k * g) + g := by rw [Nat.succ_mul]; omega
    rw [e] at hj ⊢
    rw [h _ hj]
    exact Per.mul h k j (by omega)
theorem Per.base {f : Nat → Option Nat} {n p a : Nat} (hp : Per f n p) (h : Per f n (p + a)) : Per (fun i => f (i + p)) (n - p) a := by
  intro i hi
  have h1 := h i (by omega)
  have h2 := hp i (by omega)
  show f (i + a + p) = f (i + p)
  rw [h2, ← h1]
  congr 1
  omega
theorem Per.lift {f : Nat → Option Nat} {n p a : Nat} (hp : Per f n p) (h : Per (fun i => f (i + p)) (n - p) a) : Per f n (p + a) := by
  intro i hi
  have h1 : f (i + a + p) = f (i + p) := h i (by omega)
  have h2 := hp i (by omega)
  rw [← h2, ← h1]
  congr 1
  omega
theorem Per.extend {f : Nat → Option Nat} {m a g : Nat} (h : Per f (m - a) g) (ha : Per f m a) (hd : g ∣ a) (hm : 2 * a ≤ m) (hg : g ≤ a) : Per f m g := by
  intro i hi
  by_cases h1 : i + g < m - a
  · exact h i h1
  · have e1 : f (i + g) = f (i + g - a) := by
      have := ha (i + g - a) (by omega)
      rwa [show i + g - a + a = i + g by omega] at this
    by_cases h2 : a ≤ i
    · have e2 : f i = f (i - a) := by
        have := ha (i - a) (by omega)
        rwa [show i - a + a = i by omega] at this
      have e3 := h (i - a) (by omega)
      rw [e1, e2, ← e3]
      congr 1
      omega
    · obtain ⟨k, rfl⟩ := hd
      cases k with
      | zero => omega
      | succ k =>
        have e : g * (k + 1) = k * g + g := by rw [Nat.mul_succ, Nat.mul_comm]
        have e3 := h.mul k (i + g - g * (k + 1)) (by omega)
        rw [e1, ← e3]
        congr 1
        omega
theorem fine_wilf (f : Nat → Option Nat) : ∀ N a b m : Nat, a + b ≤ N → 0 < a → a ≤ b → a + b ≤ m + Nat.gcd a b → Per f m a → Per f m b → Per f m (Nat.gcd a b)
  | 0, a, b, m, h, h0, h1, _, _, _ => by omega
  | N + 1, a, b, m, h, h0, h1, hm, ha, hb => by
    by_cases e : a = b
    · subst e; rw [Nat.gcd_self]; exact ha
    · have hg : Nat.gcd a (b - a) = Nat.gcd a b := by
        rw [Nat.gcd_sub_self_right (by omega)]
      have hga : Nat.gcd a b ≤ a := Nat.gcd_le_left _ h0
      have hda : Nat.gcd a b ∣ a := Nat.gcd_dvd_left _ _
      have hgb : Nat.gcd a b ≤ b - a := by rw [← hg]; exact Nat.gcd_le_right _ (by omega)
      have p1 : Per f (m - a) a := fun i hi => ha i (by omega)
      have p2 : Per f (m - a) (b - a) := by
        intro i hi
        have e1 := hb i (by omega)
        have e2 := ha (i + (b - a)) (by omega)
        rw [← e1, ← e2]
        congr 1
        omega
      have key : Per f (m - a) (Nat.gcd a b) := by
        by_cases hc : a ≤ b - a
        · have := fine_wilf f N a (b - a) (m - a) (by omega) h0 hc (by rw [hg]; omega) p1 p2
          rwa [hg] at this
        · have := fine_wilf f N (b - a) a (m - a) (by omega) (by omega) (by omega) (by rw [Nat.gcd_comm, hg]; omega) p2 p1
          rwa [Nat.gcd_comm, hg] at this
      exact key.extend ha hda (by omega) hga
/-- the shifts of a word are its periods -/
theorem per_of {x : List Nat} {k : Nat} (h : x.drop k = x.take (x.length - k)) : Per (fun i => x[i]?) x.length k := by
  intro i hi
  have : (x.drop k)[i]? = (x.take (x.length - k))[i]? := by rw [h]
  rw [List.getElem?_drop, List.getElem?_take_of_lt (by omega), Nat.add_comm] at this
  exact this
theorem of_per {x : List Nat} {k : Nat} (h : Per (fun i => x[i]?) x.length k) : x.drop k = x.take (x.length - k) := by
  apply List.ext_getElem?
  intro i
  by_cases hi : i + k < x.length
  · rw [List.getElem?_drop, List.getElem?_take_of_lt (by omega), Nat.add_comm]
    exact h i hi
  · rw [List.getElem?_eq_none (by rw [List.length_drop]; omega), List.getElem?_eq_none (by rw [List.length_take]; omega)]
noncomputable abbrev shP (x : List Nat) : Int → Bool := fun k => decide (x.drop k.toNat = x.take (x.length - k.toNat))
theorem shiftsI_eq (x : List Nat) : shiftsI x = (uptoI x.length).filter (shP x) := rfl
theorem sh_iff {x : List Nat} {k : Int} : shP x k = true ↔ Per (fun i => x[i]?) x.length k.toNat := ⟨fun h => per_of (of_decide_eq_true h), fun h => decide_eq_true (of_per h)⟩
theorem mem_base {x : List Nat} {k : Nat} {p : Int} (h : p ∈ 0 :: (uptoI k).filter (shP x)) : 0 ≤ p ∧ (p < k ∨ p = 0) ∧ Per (fun i => x[i]?) x.length p.toNat := by
  rcases List.mem_cons.mp h with rfl | h
  · exact ⟨by omega, .inr rfl, fun i _ => rfl⟩
  · obtain ⟨a, b⟩ := List.mem_filter.mp h
    have := mem_uptoI.mp a
    exact ⟨by omega, .inl this.2, sh_iff.mp b⟩
theorem sh_ok0 (x : List Nat) (k : Nat) (hn : shP x k = false) : ok0 ((uptoI k).filter (shP x)) k = true := by
  unfold ok0
  rw [Bool.not_eq_true', List.any_eq_false]
  intro p hp
  rw [Bool.not_eq_true, List.any_eq_false]
  intro q hq
  obtain ⟨p0, _, pp⟩ := mem_base hp
  obtain ⟨q0, _, qq⟩ := mem_base (List.mem_cons_of_mem _ hq)
  intro hc
  obtain ⟨c1, c2⟩ := Bool.and_eq_true_iff.mp hc
  have c1 := of_decide_eq_true c1
  have c2 := of_decide_eq_true c2
  obtain ⟨d, hd⟩ : ∃ d, q.toNat = p.toNat + d := ⟨q.toNat - p.toNat, by omega⟩
  rw [hd] at qq
  have y := pp.base qq
  have y2 : Per (fun i => x[i + p.toNat]?) (x.length - p.toNat) (2 * d) := by
    intro i hi
    have e1 := y (i + d) (by omega)
    have e2 := y i (by omega)
    rw [← e2, ← e1]
    congr 1
    omega
  have z := pp.lift y2
  have : shP x k = true := sh_iff.mpr (by rw [show (k : Int).toNat = p.toNat + 2 * d by omega]; exact z)
  rw [hn] at this; cases this
theorem sh_ok1 (x : List Nat) (k : Nat) (hk : k < x.length) (hn : shP x k = true) : ok1 x.length ((uptoI k).filter (shP x)) k = true := by
  unfold ok1
  rw [List.all_eq_true]
  intro p hp
  rw [List.all_eq_true]
  intro u hu
  obtain ⟨p0, _, pp⟩ := mem_base hp
  obtain ⟨u0, _, uu⟩ := mem_base (List.mem_cons_of_mem _ hu)
  have hu2 := mem_uptoI.mp (List.mem_filter.mp hu).1
  by_cases hc : p < u ∧ (u - p) + ((k : Int) - p) ≤ ((x.length : Int) - p) + (Nat.gcd (u - p).toNat ((k : Int) - p).toNat : Nat)
  · obtain ⟨c1, c2⟩ := hc
    rw [Bool.or_eq_true]
    right
    obtain ⟨a, ha⟩ : ∃ a, (u - p).toNat = a := ⟨_, rfl⟩
    obtain ⟨b, hb⟩ : ∃ b, ((k : Int) - p).toNat = b := ⟨_, rfl⟩
    rw [ha, hb] at c2 ⊢
    have hga : Nat.gcd a b ≤ a := Nat.gcd_le_left _ (by omega)
    have hgp : 0 < Nat.gcd a b := Nat.gcd_pos_of_pos_left _ (by omega)
    have ea : u.toNat = p.toNat + a := by omega
    have eb : (k : Int).toNat = p.toNat + b := by omega
    rw [ea] at uu
    have kk := sh_iff.mp hn
    rw [eb] at kk
    have y := fine_wilf _ _ a b (x.length - p.toNat) (Nat.le_refl _) (by omega) (by omega) (by omega) (pp.base uu) (pp.base kk)
    have z := pp.lift y
    rw [List.contains_iff_mem]
    exact List.mem_filter.mpr ⟨mem_uptoI.mpr ⟨by omega, by omega⟩, sh_iff.mpr (by rw [show (p + (Nat.gcd a b : Nat)).toNat = p.toNat + Nat.gcd a b by omega]; exact z)⟩
  · rw [Bool.or_eq_true]
    left
    rw [Bool.not_eq_true', Bool.and_eq_false_iff]
    by_cases h1 : p < u
    · right
      exact decide_eq_false fun z => hc ⟨h1, z⟩
    · left
      exact decide_eq_false h1
theorem twin_good {x : List Nat} (h1 : 1 ≤ x.length) (h2 : x.length ≤ 12) {hi lo : Nat} (hc : (hi, lo) ∈ pairs7) :
    (twinF 13 (shiftsI x) x.length hi lo).length = x.length ∧ shiftsI (twinF 13 (shiftsI x) x.length hi lo) = shiftsI x := by
  have hch : chk x.length = true := List.all_eq_true.mp chk_small _ (List.mem_map.mpr ⟨x.length - 1, List.mem_range.mpr (by omega), by omega⟩)
  have := go_spec x.length (shP x) _ (fun k _ _ h => sh_ok0 x k h) (fun k _ hk h => sh_ok1 x k hk h) (x.length - 1) 1 (by omega) (by omega) hch
  have hg := good_all this (pairs_ne hc)
  unfold goodT at hg
  rw [Bool.and_eq_true, beq_iff_eq, beq_iff_eq] at hg
  exact hg
/-- the number that the answers gather -/
noncomputable def dueF (n : Nat) (S : List Int) : Int := 1 + 2 ^ n + (S.map fun q => (2 : Int) ^ q.toNat).sum
theorem told_upto (x : List Nat) : ∀ k, 1 ≤ k → k ≤ x.length → toldN x k = 1 + (((uptoI k).filter (shP x)).map fun q => (2 : Int) ^ q.toNat).sum
  | 0, h, _ => by omega
  | 1, _, _ => by
    have e : uptoI 1 = [] := rfl
    rw [e]
    simp [toldN]
  | k + 2, _, hk => by
    have ih := told_upto x (k + 1) (by omega) (by omega)
    rw [toldN, ih, uptoI_succ (k + 1) (by omega), List.filter_append, List.map_append, List.sum_append]
    have ek : ((k + 1 : Nat) : Int).toNat = k + 1 := rfl
    by_cases hp : shP x ((k + 1 : Nat) : Int) = true
    · rw [List.filter_cons_of_pos hp]
      have := of_decide_eq_true hp
      rw [ek] at this
      rw [if_pos this.symm]
      simp only [List.filter_nil, List.map_cons, List.map_nil, List.sum_cons, List.sum_nil, ek]
      omega
    · rw [List.filter_cons_of_neg hp]
      rw [if_neg (fun z => hp (decide_eq_true (by rw [ek]; exact z.symm)))]
      simp
theorem told_due (x : List Nat) (h : 1 ≤ x.length) : toldN x (x.length + 1) = dueF x.length (shiftsI x) := by
  rw [toldN, told_upto x x.length h (Nat.le_refl _), if_pos (by simp), dueF, shiftsI_eq]
  omega

end
section
noncomputable abbrev ring : List Nat := [97, 34, 32, 92, 10, 35, 9, 97, 34, 32]
theorem ring_lit : ("a\" \\\n#\ta\" " : Str) = sx ring := by decide +kernel
/-- the four signs -/
theorem signs_are (r : Int) (h0 : 0 ≤ r) (h7 : r < 7) : ∃ fs hi lo, Txt.slice ("a\" \\\n#\ta\" " : Str) (some r) (some (r + 4)) = sx fs ∧ fs.length = 4 ∧ fs[0]? = some hi ∧ fs[1]? = some lo ∧ (hi, lo) ∈ pairs7 ∧ 46 ∉ fs ∧ ∀ c ∈ fs, c < 128 := by
  have e : Txt.slice ("a\" \\\n#\ta\" " : Str) (some r) (some (r + 4)) = sx ((ring.drop r.toNat).take (r + 4 - r).toNat) := by
    rw [ring_lit]
    exact slice_ss ring r (r + 4) h0 (by omega) (by simp only [ring, List.length_cons, List.length_nil]; omega)
  rw [e, show (r + 4 - r).toNat = 4 by omega]
  have hr : r = 0 ∨ r = 1 ∨ r = 2 ∨ r = 3 ∨ r = 4 ∨ r = 5 ∨ r = 6 := by omega
  rcases hr with rfl | rfl | rfl | rfl | rfl | rfl | rfl <;> exact ⟨_, _, _, rfl, rfl, rfl, rfl, by decide, by decide, by decide⟩

end
section
local macro_rules | `(tactic| walk_at "subscriptTail Name Constant str int") => `(tactic| (k_here; (with_reducible show wpAny _ _ (subscriptTail _ _ (Value.str (Mine.sx _) _) (Value.int _ _)) _ _ _); (refine' Mine.sign_at ?a ?b ?c ?_ ?hs ?ht; (case b => assumption); (case a => first | omega | decide); (case c => first | omega); (case hs => with_unfolding_all rfl); (case ht => intro _; with_unfolding_all rfl)); intro t' tk'))
local macro_rules | `(tactic| walk_at "subscriptTail Name BinOp str int") => `(tactic| (k_here; (with_reducible show wpAny _ _ (subscriptTail _ _ (Value.str (Mine.sx _) _) (Value.int _ _)) _ _ _); (refine' Mine.sign_at ?a ?b ?c ?_ ?hs ?ht; (case b => assumption); (case a => first | omega | decide); (case c => first | omega); (case hs => with_unfolding_all rfl); (case ht => intro _; with_unfolding_all rfl)); intro t' tk'))
section
noncomputable abbrev lexEs (w : World) (t1 t2 t3 t4 : Tok) (ln ins ws pb : Value) : List DictEntry :=
  [⟨PyData.keyHash w.params "lineno", .str "lineno" t1, ln⟩, ⟨PyData.keyHash w.params "instream", .str "instream" t2, ins⟩, ⟨PyData.keyHash w.params "whitespace", .str "whitespace" t3, ws⟩, ⟨PyData.keyHash w.params "pushback", .str "pushback" t4, pb⟩]
set_option maxHeartbeats 8000000 in
theorem c_make (w : World) (fp : Value) 
   (dp un : Nat) (fr : Option (List Env)) (gd : Option (List Code)) (s : Shared) (Q E : Value → Shared → Prop)
   (G : Gd w s.heap) (hdp : dp + 10 < 1000) (hun : un + 200 < 9900)
   (ret : ∀ D dx P t1 t2 t3 t4 a b h' tk', Ext s.heap h' → h'.get? D = some (instObj 115 dx) → h'.get? dx = some (dictOf (lexEs w t1 t2 t3 t4 (.int 1 a) fp (.str "\n\t\r " b) (.ref P)) 4) → h'.get? P = some (listOf #[] 0) →
     @LE.le Nat _ s.heap.objs.size dx → @LT.lt Nat _ dx D → @LT.lt Nat _ D P → Q (.ref D) { s with heap := h', toks := tk' }) :
   wpAny (model PySem.Challenge.rw_sw0018_01.row.prog w) (Ar dp un fr gd) (call (.ref 115) [fp]) Q E s := by
  w_on
  have KX := G.X
  obtain ⟨p, loose, mg, mb, T⟩ := G.T
  revert KX
  k_fill
  intro KX
  refine wpAny_call ?_
  have X1 : (hd.heap_39 w.params).In s.heap := G.X
  obtain ⟨uh, ud, uu⟩ := under_make dp un fr gd 115 [fp]
  obtain ⟨hh, gg, dd, tt, oo⟩ := s
  refine make_core (init := .ref 91) (makes_of X1 ?m1) (looks_findIn X1 ?m2) (fun self => bind_fn X1 self ?m3) (.inl rfl) ?_
  case m1 => k_is
  case m2 => k_is
  case m3 => k_is
  refine' enterX (g := hh) (news := [(hh.objs.size + 1, instObj 115 hh.objs.size), (hh.objs.size, dictOf [] 0)]) (binds := [("self", .ref (hh.objs.size + 1)), ("fp", fp)]) uh ?sub ?sz ?N0 ?G ?room ?ho ?hcd ?hb ?hl ?k1 ?k2 ?k3 ?k4 ?_
  case sub => exact fun b o e => Heap.get?_push_of_some _ (Heap.get?_push_of_some _ e)
  case sz => simp only [Heap.size_push]; omega
  case N0 => 
    intro p hp
    rcases List.mem_cons.mp hp with rfl | hp
    · refine ⟨?_, get_none (by omega)⟩
      have := Heap.get?_push_size (hh.push emptyDict) (o := instObj 115 hh.objs.size) rfl
      rwa [Heap.size_push] at this
    · rw [List.mem_singleton.mp hp]
      exact ⟨Heap.get?_push_of_some _ (Heap.get?_push_size _ rfl), get_none (Nat.le_refl _)⟩
  case G => exact G.keeps fun b o e => Heap.get?_push_of_some _ (Heap.get?_push_of_some _ e)
  case room => rw [ud]; simp only [recursionLimit]; omega
  case ho => k_is
  case hcd => k_is
  case hb => exact BindsTo.of_eq rfl
  case hl => exact locs rfl
  case k1 => exact rfl
  case k2 => exact rfl
  case k3 => exact rfl
  case k4 => decide
  intro L h₁ tk m fr' hL F H N K1
  dsimp only [List.reverse, List.reverseAux] at H
  rw [ud]
  generalize ((Ar dp un fr gd).under (.builtin "type.__call__" ⟨[.ref 115, fp], []⟩)).guards = gd1
  generalize ((Ar dp un fr gd).under (.builtin "type.__call__" ⟨[.ref 115, fp], []⟩)).units = un1 at uu
  (try k_unmd)
  k_fold
  k_steps
  rename Fr _ _ _ _ => F9
  rename News _ _ _ _ => N9
  refine ⟨rfl, ?_⟩
  have n1 := N9 _ (.head _)
  have n2 := N9 _ (.tail _ (.head _))
  have n3 := N9 _ (.tail _ (.tail _ (.head _)))
  refine ret _ _ _ _ _ _ _ _ _ _ _ (fun b o e => F9.keep b o e) n2.1 n3.1 n1.1 (Nat.le_refl _) (Nat.lt_succ_self _) ?_
  omega
theorem news_add {h₀ h h' : Heap} {L D : Addr} {m : Str → Option Value} {news : List (Addr × Obj)} {o : Obj} (F : Fr h₀ L h m) (N' : News h₀ L h' news) (e : h'.get? D = some o) (hs : @LE.le Nat _ h.objs.size D) : News h₀ L h' ((D, o) :: news) := by
  have hD : h.get? D = none := get_none hs
  intro p hp
  rcases List.mem_cons.mp hp with rfl | hp
  · refine ⟨e, ?_, ?_⟩
    · exact fun q => absurd F.ns.lt (Nat.not_lt.mpr (by rw [← q]; exact hs))
    · cases q : h₀.get? D with
      | none => rfl
      | some z => rw [F.keep _ _ q] at hD; cases hD
  · exact N' p hp
/-- the class call, in a frame -/
theorem made_in {h₀ h h' : Heap} {L D dx P : Addr} {m : Str → Option Value} {news : List (Addr × Obj)} {o1 o2 o3 : Obj} (F : Fr h₀ L h m) (N : News h₀ L h news) (K : Ext h h') (e1 : h'.get? D = some o1) (e2 : h'.get? dx = some o2) (e3 : h'.get? P = some o3)
    (h1 : @LE.le Nat _ h.objs.size dx) (h2 : @LT.lt Nat _ dx D) (h3 : @LT.lt Nat _ D P) : Fr h₀ L h' m ∧ News h₀ L h' ((D, o1) :: (dx, o2) :: (P, o3) :: news) ∧ (∀ p ∈ news, p.1 < dx) := by
  obtain ⟨F', N'⟩ := lift2 K F N
  exact ⟨F', news_add F (news_add F (news_add F N' e3 (by omega)) e2 h1) e1 (by omega), fun p hp => Nat.lt_of_lt_of_le (Heap.lt_size (N p hp).1) h1⟩

end
section
local macro_rules | `(tactic| walk_at "call builtin:list.append") => `(tactic| (k_here; (with_reducible show wpAny _ _ (call (Value.builtin _) [Value.ref _, _]) _ _ _); (refine' Mine.append_P ?F ?N ?U ?z ?_; (case F => k_asm); (case N => k_asm); (case U => assumption); (case z => omega)); intro h' F' N'; (try k_sweep)))
section
set_option maxHeartbeats 8000000 in
theorem c_pieces (w : World) (fs : List Nat) (hfs : fs.length = 4) (tf : Tok) (l : Addr) (vs : Array Value) (xs : List Int) (hI : IntsAre vs.toList xs)
   (dp un : Nat) (fr : Option (List Env)) (gd : Option (List Code)) (s : Shared) (Q E : Value → Shared → Prop)
   (hl : s.heap.IsList l vs)
   (G : Gd w s.heap) (hdp : dp + 10 < 1000) (hun : un + 200 < 9900)
   (ret : ∀ D ys k ps h' tk', Ext s.heap h' → s.heap.get? D = none → h'.get? D = some (listOf ys k) → Words ys.toList ps → PiecesOk fs ps → Q (.ref D) { s with heap := h', toks := tk' }) :
   wpAny (model PySem.Challenge.rw_sw0018_01.row.prog w) (Ar dp un fr gd) (call (.ref 133) [.ref l, .str (sx fs) tf]) Q E s := by
  w_on
  have KX := G.X
  obtain ⟨p, loose, mg, mb, T⟩ := G.T
  revert KX
  k_fill
  intro KX
  refine' enterG (binds := [("numbers", .ref l), ("four", .str (sx fs) tf)]) (fun _ _ e => e) (Nat.le_refl _) G ?room ?ho ?hcd ?hb ?hl ?k1 ?k2 ?k3 ?k4 ?_
  case room => simp only [recursionLimit]; omega
  case ho => k_is
  case hcd => k_is
  case hb => exact BindsTo.of_eq rfl
  case hl => exact locs rfl
  case k1 => exact rfl
  case k2 => exact rfl
  case k3 => exact rfl
  case k4 => decide
  intro L h₁ tk m fr' hL F H K1
  have N : News s.heap L h₁ [] := News.nil
  dsimp only [List.reverse, List.reverseAux] at H

  (try k_unmd)
  k_fold
  obtain ⟨c0, hc0⟩ : ∃ c, fs[(0 : Int).toNat]? = some c := ⟨_, List.getElem?_eq_getElem (by rw [hfs]; decide)⟩
  k_steps
  rename Fr _ _ _ _ => F9
  rename News _ _ _ _ => N9
  rename Has _ _ => H9
  refine Stop.mk ?_
  refine' iterOld (fun i m nw => ∃ D ys k t1 ps tl, nw = (D, listOf ys k) :: tl ∧ Has m [("made", .ref D), ("grown", .str (sx ps.flatten) t1), ("four", .str (sx fs) tf)] ∧ Words ys.toList ps ∧ PiecesOk fs ps ∧ 1 ≤ ps.flatten.length ∧ (∀ p ∈ tl, p.1 ≠ D)) ?a ?b ?c ?F ?N ?l ?j ?turn ?done
  case a => rfl
  case b => rfl
  case c => rfl
  case F => exact F9
  case N => exact N9
  case l => exact hl
  case j =>
    have hm : c0 ∈ fs := List.mem_of_getElem? hc0
    exact ⟨_, _, _, _, [[c0]], _, rfl, H9.sub ⟨rfl, rfl, rfl, trivial⟩, .cons ⟨_, rfl⟩ .nil, ⟨by simp, by simp [hm], by simp⟩, by simp, fun p hp => by cases hp⟩
  case turn =>
    intro i v m₁ news₁ I h tk o hi hJ hne F N
    obtain ⟨D, ys, k, t1, ps, tl, rfl, H, hW, hP, h1, hD⟩ := hJ
    obtain ⟨x, tx, rfl, hx⟩ := ints_mem hI v (by rw [Array.mem_toList_iff]; exact Array.mem_of_getElem? hi)
    clear hx
    replace H := H.put "x" (.int x tx)
    have hP2 := hP.len
    have hm1 := Int.fmod_nonneg_of_pos (x.fdiv 3) (show (0:Int) < 4 by decide)
    have hm2 := Int.fmod_lt_of_pos (x.fdiv 3) (show (0:Int) < 4 by decide)
    have hg1 := Int.fmod_nonneg_of_pos (x.fdiv 3) (show (0:Int) < ps.flatten.length by omega)
    have hg2 := Int.fmod_lt_of_pos (x.fdiv 3) (show (0:Int) < ps.flatten.length by omega)
    obtain ⟨cm, hcm⟩ : ∃ c, fs[((x.fdiv 3).fmod 4).toNat]? = some c := ⟨_, List.getElem?_eq_getElem (by omega)⟩
    have hcm2 : cm ∈ fs := List.mem_of_getElem? hcm
    have hl1 : [cm].length = 1 := rfl
    have hl2 : (cm :: ps.flatten).length = ps.flatten.length + 1 := rfl
    have hsz : ys.size ≤ 12 := by
      have := hW.length
      have := len_le_flat fun p hp => (hP.each p hp).1
      rw [← Array.length_toList]; omega
    have hne' : ∀ o', ∀ p ∈ (D, o') :: tl, p.1 ≠ I := fun o' p hp => by
      rcases List.mem_cons.mp hp with rfl | hp
      · have z := hne _ (.head _)
        exact z
      · exact hne _ (.tail _ hp)
    have memX : ∀ Y : List Nat, (∀ c ∈ Y, c ∈ fs) → ∀ c ∈ List.take (12 - (ps.flatten.length : Int)).toNat Y, c ∈ fs := fun Y hY c hc => hY c (List.mem_of_mem_take hc)
    have hU : UpdP D (listOf ys k) ((I, o) :: (D, listOf ys k) :: tl) (fun o' => (I, o) :: (D, o') :: tl) := fun o' => .tail (fun e => hne _ (.head _) e.symm) (.head hD)
    k_steps
    all_goals (rename Fr _ _ _ _ => F9)
    all_goals (rename News _ _ _ _ => N9)
    all_goals (rename Has _ _ => H9)
    · rename (_ != _) = true => q1
      have q2 := ne_sx q1
      refine ⟨_, _, _, _, rfl, F9, N9, by k_mem, _, fun p hp => .tail _ hp, hne' _, D, _, _, _, ps ++ [List.take (12 - (ps.flatten.length : Int)).toNat [cm]], tl, rfl, H9.sub ⟨rfl, by rw [flat_snoc]; rfl, rfl, trivial⟩, hW.push, hP.snoc q2 (memX _ (fun c hc => by rw [List.mem_singleton.mp hc]; exact hcm2)) ?_, ?_, hD⟩
      · simp only [List.length_take]; omega
      · rw [flat_snoc, List.length_append]; omega
    · rename (_ != _) = false => q1
      have q2 := eq_sx_nil q1
      rw [q2, List.append_nil] at H9
      exact ⟨_, _, _, _, rfl, F9, N9, by k_mem, _, fun p hp => .tail _ hp, hne, D, _, _, _, ps, tl, rfl, H9.sub ⟨rfl, rfl, rfl, trivial⟩, hW, hP, h1, hD⟩
    · rename (_ != _) = true => q1
      have q2 := ne_sx q1
      refine ⟨_, _, _, _, rfl, F9, N9, by k_mem, _, fun p hp => .tail _ hp, hne' _, D, _, _, _, ps ++ [List.take (12 - (ps.flatten.length : Int)).toNat (List.take (1 + (x.fdiv 3).fmod ↑ps.flatten.length).toNat ps.flatten)], tl, rfl, H9.sub ⟨rfl, by rw [flat_snoc]; rfl, rfl, trivial⟩, hW.push, hP.snoc q2 (memX _ (fun c hc => hP.flat c (List.mem_of_mem_take hc))) ?_, ?_, hD⟩
      · simp only [List.length_take]; omega
      · rw [flat_snoc, List.length_append]; omega
    · rename (_ != _) = false => q1
      have q2 := eq_sx_nil q1
      rw [q2, List.append_nil] at H9
      exact ⟨_, _, _, _, rfl, F9, N9, by k_mem, _, fun p hp => .tail _ hp, hne, D, _, _, _, ps, tl, rfl, H9.sub ⟨rfl, rfl, rfl, trivial⟩, hW, hP, h1, hD⟩
    · rename (_ != _) = true => q1
      have q2 := ne_sx q1
      refine ⟨_, _, _, _, rfl, F9, N9, by k_mem, _, fun p hp => .tail _ hp, hne' _, D, _, _, _, ps ++ [List.take (12 - (ps.flatten.length : Int)).toNat (cm :: ps.flatten)], tl, rfl, H9.sub ⟨rfl, by rw [flat_snoc]; rfl, rfl, trivial⟩, hW.push, hP.snoc q2 (memX _ (fun c hc => by rcases List.mem_cons.mp hc with rfl | hc; exact hcm2; exact hP.flat c hc)) ?_, ?_, hD⟩
      · simp only [List.length_take]; omega
      · rw [flat_snoc, List.length_append]; omega
    · rename (_ != _) = false => q1
      have q2 := eq_sx_nil q1
      rw [q2, List.append_nil] at H9
      exact ⟨_, _, _, _, rfl, F9, N9, by k_mem, _, fun p hp => .tail _ hp, hne, D, _, _, _, ps, tl, rfl, H9.sub ⟨rfl, rfl, rfl, trivial⟩, hW, hP, h1, hD⟩
  case done =>
    intro m₁ news₁ h tk hJ F N
    obtain ⟨D, ys, k, t1, ps, tl, rfl, H, hW, hP, h1, hD⟩ := hJ
    k_steps
    dsimp only
    repeat (k_unfold; try dsimp only)
    rename Fr _ _ _ _ => F9
    rename News _ _ _ _ => N9
    have z := N9 (D, _) (.head _)
    refine ret D ys k ps _ _ F9.keep z.2.2 z.1 hW hP

end
section
local macro_rules | `(tactic| walk_at "call type:list") => `(tactic| (k_here; (with_reducible show wpAny _ _ (call (Value.type _) [Value.str (Mine.sx _) _]) _ _ _); (refine' Mine.list_sx rfl ?F ?N ?z ?_; (case F => k_asm); (case N => k_asm); (case z => omega)); intro D ys k h' tk F' N' l1 hW hl; (try k_lt l1); (try k_sweep)))
local macro_rules | `(tactic| walk_at "call builtin:list.reverse") => `(tactic| (k_here; (with_reducible show wpAny _ _ (call (Value.builtin _) [Value.ref _]) _ _ _); (refine' Mine.rev_made ?F ?N ?U ?z ?_; (case F => k_asm); (case N => k_asm); (case U => k_upd); (case z => omega)); intro h' F' N'; (try k_sweep)))
local macro_rules | `(tactic| walk_at "call ref") => `(tactic| (k_here; (with_reducible show wpAny _ _ (call (Value.ref 115) [_]) _ _ _); k_dflt (refine' Mine.c_make _ _ _ _ _ _ _ _ _ ?G ?d ?u ?_; (case G => exact Mine.Gd.keeps (by assumption) (Fr.keep (by k_asm))); (case d => omega); (case u => omega)); intro D dx P t1 t2 t3 t4 a b h' tk' K' e1 e2 e3 h1 h2 h3; (have kz := Mine.made_in (by k_asm) (by k_asm) K' e1 e2 e3 h1 h2 h3); clear e1 e2 e3 h1; (obtain ⟨F', N', l1⟩ := kz); (try k_lt l1); (try dsimp only [Mine.lexEs] at N'); (try k_sweep)))
local macro_rules | `(tactic| walk_at "eval Name") => `(tactic| (k_here; k_dflt (refine' nameX_F ?N ?c ?m ?d ?_ ?a ?b; (case a => rfl); (case b => rfl); (case N => k_asm); (case c => rfl); (case m => k_mem); (case d => k_asm); k_whole)))
local macro_rules | `(tactic| walk_at "truthy ref") => `(tactic| (k_here; (refine' Mine.truthy_snoc ?N ?m ?z ?_; (case N => k_asm); (case m => k_mem); (case z => first | omega | (simp only [List.length_reverse]; omega))); intro tk'))
local macro_rules | `(tactic| walk_at "truthy ref") => `(tactic| (k_here; (refine' Mine.truthy_nil ?N ?m ?_; (case N => k_asm); (case m => k_mem)); intro tk'))
local macro_rules | `(tactic| walk_at "call builtin:list.pop") => `(tactic| (k_here; (try dsimp only); (with_reducible show wpAny _ _ (call (Value.builtin _) [Value.ref _]) _ _ _); (refine' Mine.pop_made ?F ?N ?U ?z ?_; (case F => k_asm); (case N => k_asm); (case U => k_upd); (case z => first | omega | (simp only [List.length_reverse]; omega))); intro h' F' N'; (try k_sweep)))
local macro_rules | `(tactic| walk_at "callWith ref") => `(tactic| (k_here; k_dflt (first | (refine' callWith_F ?k1 ?_; (case k1 => exact FnAt.of (by k_asm) (by k_mem)); k_whole) | (refine' callWith_F0 ?k1 ?_; (case k1 => exact FnAt.of (by k_asm) (by k_mem)); k_whole; try dsimp only [List.nil_append, List.cons_append]))))
local macro_rules | `(tactic| walk_at "And") => `(tactic| ((with_reducible show FnAt _ _ ∧ _); refine ⟨FnAt.of (by k_asm) (by k_mem), ?_⟩; try dsimp only [List.nil_append, List.cons_append]))
section
noncomputable def LamOk (w : World) (f c ce LD : Addr) (fo oc oce : Obj) : Prop :=
  ∀ (left : List Value) (nl : Nat) (cs : List Nat) (t : Tok) (dp un : Nat) (fr : Option (List Env)) (gd : Option (List Code)) (s : Shared) (Q E : Value → Shared → Prop),
    Words left (cs.map fun c => [c]) → cs.length ≤ 200 → s.heap.get? f = some fo → s.heap.get? c = some oc → s.heap.get? ce = some oce → s.heap.get? LD = some (listOf left.reverse.toArray nl) →
    Gd w (hideAll s.heap [f, c, ce, LD]) → dp + 5 < 1000 → un + 50 < 9900 →
    (∀ h' t' tk' left' nl', But [LD] s.heap h' → Words left' (cs.tail.map fun c => [c]) → h'.get? LD = some (listOf left'.reverse.toArray nl') → Q (.str (sx (cs.take 1)) t') { s with heap := h', toks := tk' }) →
    wpAny (model PySem.Challenge.rw_sw0018_01.row.prog w) (Ar dp un fr gd) (call (.ref f) [.int 1 t]) Q E s
structure LexA where
  (X dX S dS f c ce LD P PS : Addr)
  (fo oc oce : Obj)
  (t1 t2 t3 t4 tw u1 u2 u3 u4 u5 uw ua : Tok)
noncomputable abbrev LexA.objs (w : World) (a : LexA) (ln : Int) (tl : Tok) (left : List Value) (nl : Nat) (pb : Array Value) (np : Nat) : List (Addr × Obj) :=
  [(a.X, instObj 115 a.dX), (a.dX, dictOf (lexEs w a.t1 a.t2 a.t3 a.t4 (.int ln tl) (.ref a.S) (.str "\n\t\r " a.tw) (.ref a.P)) 4), (a.S, instObj 115 a.dS),
   (a.dS, dictOf [⟨PyData.keyHash w.params "lineno", .str "lineno" a.u1, .int 1 a.ua⟩, ⟨PyData.keyHash w.params "instream", .str "instream" a.u2, .none⟩, ⟨PyData.keyHash w.params "whitespace", .str "whitespace" a.u3, .str "\n\t\r " a.uw⟩, ⟨PyData.keyHash w.params "pushback", .str "pushback" a.u4, .ref a.PS⟩, ⟨PyData.keyHash w.params "read", .str "read" a.u5, .ref a.f⟩] 5),
   (a.f, a.fo), (a.c, a.oc), (a.ce, a.oce), (a.LD, listOf left.reverse.toArray nl), (a.P, listOf pb np)]
structure LexA.Ok (w : World) (a : LexA) : Prop where
  o1 : @LT.lt Nat _ a.ce a.LD
  o2 : @LT.lt Nat _ a.LD a.dS
  o3 : @LT.lt Nat _ a.dS a.S
  o4 : @LT.lt Nat _ a.S a.c
  o5 : @LT.lt Nat _ a.c a.f
  o6 : @LT.lt Nat _ a.f a.dX
  o7 : @LT.lt Nat _ a.dX a.X
  o8 : @LT.lt Nat _ a.X a.P
  fn : ∃ oc od fd sl, a.fo = (⟨oc, od, .func fd, sl⟩ : Obj)
  lam : LamOk w a.f a.c a.ce a.LD a.fo a.oc a.oce
theorem lex_of {w : World} {g h' : Heap} {L X dX S dS f c ce LD P PS : Addr} {fo oc oce o121 : Obj} {t1 t2 t3 t4 tw u1 u2 u3 u4 u5 uw ua tl : Tok} {left : List Value} {nl : Nat}
    (N : News g L h' [(X, instObj 115 dX), (dX, dictOf (lexEs w t1 t2 t3 t4 (.int 1 tl) (.ref S) (.str "\n\t\r " tw) (.ref P)) 4), (P, listOf #[] 0), (f, fo), (c, oc), (S, instObj 115 dS),
      (dS, dictOf [⟨PyData.keyHash w.params "lineno", .str "lineno" u1, .int 1 ua⟩, ⟨PyData.keyHash w.params "instream", .str "instream" u2, .none⟩, ⟨PyData.keyHash w.params "whitespace", .str "whitespace" u3, .str "\n\t\r " uw⟩, ⟨PyData.keyHash w.params "pushback", .str "pushback" u4, .ref PS⟩, ⟨PyData.keyHash w.params "read", .str "read" u5, .ref f⟩] 5),
      (PS, listOf #[] 0), (LD, listOf left.reverse.toArray nl), (ce, oce), (121, o121)]) :
    ∀ p ∈ LexA.objs w ⟨X, dX, S, dS, f, c, ce, LD, P, PS, fo, oc, oce, t1, t2, t3, t4, tw, u1, u2, u3, u4, u5, uw, ua⟩ 1 tl left nl #[] 0, h'.get? p.1 = some p.2 := by
  intro p hp
  refine (N p ?_).1
  simp only [List.mem_cons, List.not_mem_nil, or_false] at hp ⊢
  rcases hp with rfl | rfl | rfl | rfl | rfl | rfl | rfl | rfl | rfl <;> simp
set_option maxHeartbeats 8000000 in
theorem c_lexer (w : World) (x : List Nat) (tx : Tok) (hx : x.length ≤ 200) (g : Heap) {p : Program} {loose : List Str} {mean : ExcName → Option Value} {mg mb : Str → Option Value}
   (dp un : Nat) (fr : Option (List Env)) (gd : Option (List Code)) (s : Shared) (Q E : Value → Shared → Prop)
   (T : Top p loose mean mg mb g) (C : CodeHd g 125 121) (Kg : Ext g s.heap) (hgs : g.objs.size ≤ s.heap.objs.size) (e121 : s.heap.get? 121 = some (tabObj #[])) (n121 : g.get? 121 = none)
   (G : Gd w g) (hdp : dp + 20 < 1000) (hun : un + 400 < 9900)
   (ret : ∀ a tl left nl h' tk', LexA.Ok w a → @LE.le Nat _ s.heap.objs.size a.ce → Words left (x.map fun c => [c]) → (∀ p ∈ a.objs w 1 tl left nl #[] 0, h'.get? p.1 = some p.2) → Ext g h' → GrownAt 121 h' → Q (.ref a.X) { s with heap := h', toks := tk' }) :
   wpAny (model PySem.Challenge.rw_sw0018_01.row.prog w) (Ar dp un fr gd) (call (.ref 126) [.str (sx x) tx]) Q E s := by
  w_on
  have KX := G.X
  revert KX
  k_fill
  intro KX
  refine wpAny_call ?_
  have G' : Gd w s.heap := G.keeps Kg
  refine' enterCX (g := g) (news := [(121, tabObj #[])]) (binds := [("written", .str (sx x) tx)]) rfl Kg hgs ?N0 G' ?room ?ho ?hcd ?hb ?hkind ?hnd ?k1 ?k2 ?k3 ?_
  case N0 => intro p hp; rw [List.mem_singleton.mp hp]; exact ⟨e121, n121⟩
  case room => simp only [recursionLimit]; omega
  case ho => k_is
  case hcd => k_is
  case hb => exact BindsTo.of_eq rfl
  case hkind => exact rfl
  case hnd => decide +kernel
  case k1 => exact rfl
  case k2 => exact rfl
  case k3 => exact rfl
  clear G'
  intro L h₁ tk cells fr' hL F N Y K1
  k_cells Y
  dsimp only [List.cons_append, List.nil_append] at N
  have l0 : @LT.lt Nat _ 121 (L + 1) := Nat.lt_of_lt_of_le (Nat.lt_of_lt_of_le (Heap.lt_size e121) hL) (Nat.le_succ _)
  obtain ⟨m, F, H⟩ : ∃ m, Fr g L h₁ m ∧ Has m [("written", .str (sx x) tx)] :=
    ⟨_, F, by with_unfolding_all exact ((Has.of_lookup []).put "written" (.str (sx x) tx))⟩
  (try k_unmd)
  k_fold
  k_steps
  rename Fr _ _ _ _ => F9
  rename News _ _ _ _ => N9
  rename Has _ _ => H9
  rename Obj.data _ = .fields _ => q1
  rename _[1]? = some _ => q2
  rename Obj.data _ = .cell _ => q3
  repeat (k_unfold; try dsimp only)
  refine' ret ⟨_, _, _, _, _, _, _, _, _, _, _, _, _, _, _, _, _, _, _, _, _, _, _, _, _⟩ _ _ _ _ _ ?ok ?le ?W (lex_of N9) F9.keep (GrownAt.of N9 (by k_mem))
  case W => assumption
  case le => dsimp only; omega
  case ok =>
    refine ⟨by dsimp only; omega, by dsimp only; omega, by dsimp only; omega, by dsimp only; omega, by dsimp only; omega, by dsimp only; omega, by dsimp only; omega, by dsimp only; omega, ⟨_, _, _, _, rfl⟩, ?lam⟩
    dsimp only
    clear F9 N9 H9 ret T C KX G
    intro left nl cs t dp2 un2 fr2 gd2 s2 Q2 E2 hW2 hcs e1 e2 e3 e4 Gh hdp2 hun2 ret2
    have hlen := hW2.length
    rw [List.length_map] at hlen
    generalize hq : (envOfC _ _ _ _ _).qual ++ _ = qual at q2 e1
    clear hq
    rcases hW2.split with ⟨rfl, rfl⟩ | ⟨c0, tc, cs', left', rfl, rfl, hW3⟩
    · rw [List.reverse_nil] at e4
      obtain ⟨g2, N0, G2, Kx, Kz, fin⟩ := hid (led4 e1 e2 e3 e4) Gh
      clear Gh
      have KX := G2.X
      obtain ⟨p, loose, mg, mb, T⟩ := G2.T
      refine wpAny_call ?_
      refine' enterL (A := Ar dp2 un2 fr2 gd2) (binds := [("count", .int 1 t)]) rfl Kx Kz N0 G2 ?room (.head _) (.tail _ (.head _)) q1 q2 ?hb ?hl ?k1 ?k2 ?k3 ?k4 ?_
      case room => simp only [recursionLimit]; omega
      case hb => exact rfl
      case hl => exact locs rfl
      case k1 => exact rfl
      case k2 => exact rfl
      case k3 => exact rfl
      case k4 => decide
      intro L h₁ tk m fr' hL F H N K1
      dsimp only [List.reverse, List.reverseAux] at H
      (try k_unmd)
      k_fold
      k_steps
      rename Fr _ _ _ _ => F9
      rename News _ _ _ _ => N9
      repeat (k_unfold; try dsimp only)
      refine ret2 _ _ _ [] _ (fin _ _ _ _ _ F9 N9 fun p hp => .inr hp) .nil (N9 (_, _) (.tail _ (.tail _ (.tail _ (.head _))))).1
    · rw [List.reverse_cons] at e4
      obtain ⟨g2, N0, G2, Kx, Kz, fin⟩ := hid (led4 e1 e2 e3 e4) Gh
      clear Gh
      have KX := G2.X
      obtain ⟨p, loose, mg, mb, T⟩ := G2.T
      refine wpAny_call ?_
      refine' enterL (A := Ar dp2 un2 fr2 gd2) (binds := [("count", .int 1 t)]) rfl Kx Kz N0 G2 ?room2 (.head _) (.tail _ (.head _)) q1 q2 ?hb2 ?hl2 ?k12 ?k22 ?k32 ?k42 ?_
      case room2 => simp only [recursionLimit]; omega
      case hb2 => exact rfl
      case hl2 => exact locs rfl
      case k12 => exact rfl
      case k22 => exact rfl
      case k32 => exact rfl
      case k42 => decide
      intro L h₁ tk m fr' hL F H N K1
      dsimp only [List.reverse, List.reverseAux] at H
      have hlen' := hW3.length
      rw [List.length_map] at hlen'
      simp only [List.length_cons] at hcs
      (try k_unmd)
      k_fold
      k_steps
      rename Fr _ _ _ _ => F9
      rename News _ _ _ _ => N9
      repeat (k_unfold; try dsimp only)
      refine ret2 _ _ _ left' _ (fin _ _ _ _ _ F9 N9 fun p hp => ?_) hW3 (N9 (_, _) (.tail _ (.tail _ (.tail _ (.head _))))).1
      rcases List.mem_cons.mp hp with rfl | hp
      · exact .inr (.head _)
      rcases List.mem_cons.mp hp with rfl | hp
      · exact .inr (.tail _ (.head _))
      rcases List.mem_cons.mp hp with rfl | hp
      · exact .inr (.tail _ (.tail _ (.head _)))
      · rw [List.mem_singleton.mp hp]; exact .inl (.head _)

end
section
theorem sx_nl (cs : List Nat) : (sx (cs.take 1) == ("\n" : Str)) = decide (cs.head? = some 10) := by
  cases cs with
  | nil => decide
  | cons c r =>
    have e1 : ("\n" : Str) = sx [10] := by decide
    have e2 : (c :: r).take 1 = [c] := rfl
    rw [e1, e2]
    by_cases h : c = 10
    · subst h; simp
    · have h1 : ¬ sx [c] = sx [10] := fun q => h (by
        have := congrArg (fun s : Str => s.cps.toList) q
        simpa [sx] using this)
      simp [h, h1]
theorem LexA.mem {w : World} {a : LexA} {ln : Int} {tl : Tok} {left : List Value} {nl : Nat} {pb : Array Value} {np : Nat} {P : Addr × Obj → Prop} (h : ∀ p ∈ a.objs w ln tl left nl pb np, P p) : P (a.LD, listOf left.reverse.toArray nl) :=
  h _ (.tail _ (.tail _ (.tail _ (.tail _ (.tail _ (.tail _ (.tail _ (.head _))))))))
local macro_rules | `(tactic| walk_at "call ref") => `(tactic| (k_here; (with_reducible show wpAny _ _ (call (Value.ref _) [Value.int 1 _]) _ _ _); refine Mine.Stop.out ?_))
set_option maxHeartbeats 8000000 in
theorem c_read (w : World) (a : LexA) (ok : a.Ok w) (ln : Int) (tl : Tok) (left : List Value) (nl : Nat) (pb : Array Value) (np : Nat) (cs : List Nat)
   (dp un : Nat) (fr : Option (List Env)) (gd : Option (List Code)) (s : Shared) (R : Result → Shared → Prop)
   (hW : Words left (cs.map fun c => [c])) (hcs : cs.length ≤ 200) (hln : 0 ≤ ln ∧ ln ≤ 1000) (e : ∀ p ∈ a.objs w ln tl left nl pb np, s.heap.get? p.1 = some p.2)
   (Gh : Gd w (hideAll s.heap ((a.objs w ln tl left nl pb np).map (·.1)))) (hdp : dp + 10 < 1000) (hun : un + 100 < 9900)
   (ret : ∀ h' t' tk' tl' left' nl', But [a.dX, a.LD] s.heap h' → Words left' (cs.tail.map fun c => [c]) → (∀ p ∈ a.objs w (if cs.head? = some 10 then ln + 1 else ln) tl' left' nl' pb np, h'.get? p.1 = some p.2) → R (.ok (.ret (.str (sx (cs.take 1)) t'))) { s with heap := h', toks := tk' }) :
   codeAny (model PySem.Challenge.rw_sw0018_01.row.prog w) (Ar dp un fr gd) (.call (.ref 98) ⟨[.ref a.X], []⟩) R s := by
  obtain ⟨X, dX, S, dS, f, c, ce, LD, P, PS, fo, oc, oce, t1, t2, t3, t4, tw, u1, u2, u3, u4, u5, uw, ua⟩ := a
  obtain ⟨o1, o2, o3, o4, o5, o6, o7, o8, ⟨fc, fod, ffd, fsl, hfo⟩, lam⟩ := ok
  dsimp only at hfo
  subst hfo
  dsimp only at o1 o2 o3 o4 o5 o6 o7 o8 lam ret ⊢
  obtain ⟨g2, N0, G2, Kx, Kz, fin⟩ := hid e Gh
  clear Gh
  w_on
  have KX := G2.X
  obtain ⟨p, loose, mg, mb, T⟩ := G2.T
  revert KX
  k_fill
  intro KX
  have G' : Gd w s.heap := G2.keeps Kx
  refine' enterX (A := Ar dp un fr gd) (binds := [("self", .ref X)]) rfl Kx Kz N0 G' ?room ?ho ?hcd ?hb ?hl ?k1 ?k2 ?k3 ?k4 ?_
  case room => simp only [recursionLimit]; omega
  case ho => k_is
  case hcd => k_is
  case hb => exact BindsTo.of_eq rfl
  case hl => exact locs rfl
  case k1 => exact rfl
  case k2 => exact rfl
  case k3 => exact rfl
  case k4 => decide
  clear G'
  intro L h₁ tk m fr' hL F H N K1
  dsimp only [List.reverse, List.reverseAux] at H
  dsimp only [LexA.objs, lexEs] at N
  (try k_unmd)
  k_fold
  k_steps
  rename Fr _ _ _ _ => F9
  rename News _ _ _ _ => N9
  rename Has _ _ => H9
  refine Stop.mk ?_
  refine' lam left nl cs _ _ _ _ _ _ _ _ hW hcs (N9 _ (.tail _ (.tail _ (.tail _ (.tail _ (.head _)))))).1 (N9 _ (.tail _ (.tail _ (.tail _ (.tail _ (.tail _ (.head _))))))).1 (N9 _ (.tail _ (.tail _ (.tail _ (.tail _ (.tail _ (.tail _ (.head _)))))))).1 (N9 _ (.tail _ (.tail _ (.tail _ (.tail _ (.tail _ (.tail _ (.tail _ (.head _))))))))).1 ?G ?d ?u ?_
  case G =>
    refine G2.hide F9.keep fun a ha => ?_
    simp only [List.mem_cons, List.not_mem_nil, or_false] at ha
    rcases ha with rfl | rfl | rfl | rfl
    · exact (N9 (a, _) (.tail _ (.tail _ (.tail _ (.tail _ (.head _)))))).2.2
    · exact (N9 (a, _) (.tail _ (.tail _ (.tail _ (.tail _ (.tail _ (.head _))))))).2.2
    · exact (N9 (a, _) (.tail _ (.tail _ (.tail _ (.tail _ (.tail _ (.tail _ (.head _)))))))).2.2
    · exact (N9 (a, _) (.tail _ (.tail _ (.tail _ (.tail _ (.tail _ (.tail _ (.tail _ (.head _))))))))).2.2
  case d => omega
  case u => omega
  intro h' t' tk' left' nl' K' hW' e'
  have kz := liftObjs0 (objs' := LexA.objs w ⟨X, dX, S, dS, f, c, ce, LD, P, PS, ⟨fc, fod, .func ffd, fsl⟩, oc, oce, t1, t2, t3, t4, tw, u1, u2, u3, u4, u5, uw, ua⟩ ln tl left' nl' pb np) K' F9 N9 rfl ?e1 ?hl
  case e1 =>
    intro p hp
    simp only [List.mem_cons, List.not_mem_nil, or_false] at hp
    rcases hp with rfl | rfl | rfl | rfl | rfl | rfl | rfl | rfl | rfl
    all_goals dsimp only
    all_goals first
      | exact e'
      | exact K' _ _ (fun q => absurd (List.mem_singleton.mp q) (show _ ≠ _ by k_ne)) (N9 (_, _) (by k_mem)).1
  case hl => intro a ha; rw [List.mem_singleton.mp ha]; simp
  obtain ⟨F', N'⟩ := kz
  dsimp only [LexA.objs, lexEs] at N'
  clear F9 N9
  k_steps
  all_goals dsimp only
  all_goals repeat (k_unfold; try dsimp only)
  all_goals rename Fr _ _ _ _ => F9
  all_goals rename News _ _ _ _ => N9
  · rename List.take 1 cs = _ => q1
    have q2 : cs.head? = some 10 := by
      cases cs with
      | nil => exact absurd q1 (by decide)
      | cons c r => 
        have : [c] = [10] := q1
        rw [(List.cons.inj this).1]; rfl
    rw [if_pos q2] at ret
    refine ret _ _ _ _ left' _ (fin _ _ _ _ _ F9 N9 ?_) hW' (fun p hp => (N9 p hp).1)
    intro p hp
    simp only [LexA.objs, List.mem_cons, List.not_mem_nil, or_false] at hp
    rcases hp with rfl | rfl | rfl | rfl | rfl | rfl | rfl | rfl | rfl
    all_goals first | exact .inr (by k_mem) | exact .inl (by simp)
  · rename ¬ List.take 1 cs = _ => q1
    have q2 : ¬ cs.head? = some 10 := by
      cases cs with
      | nil => simp
      | cons c r =>
        intro q
        apply q1
        rw [List.head?_cons] at q
        injection q with q
        subst q
        show ([10] : List Nat) = _
        decide
    rw [if_neg q2] at ret
    refine ret _ _ _ _ left' _ (fin _ _ _ _ _ F9 N9 ?_) hW' (fun p hp => (N9 p hp).1)
    intro p hp
    simp only [LexA.objs, List.mem_cons, List.not_mem_nil, or_false] at hp
    rcases hp with rfl | rfl | rfl | rfl | rfl | rfl | rfl | rfl | rfl
    all_goals first | exact .inr (by k_mem) | exact .inl (by simp)

end
section
theorem liftDrop {g h h' : Heap} {L : Addr} {m : Str → Option Value} {objs rest : List (Addr × Obj)} {l : List Addr} (K : But l h h') (F : Fr g L h m) (N : News g L h (objs ++ rest))
    (hl : ∀ a ∈ l, a ∈ objs.map (·.1)) (hr : ∀ p ∈ rest, p.1 ∉ l) : Fr g L h' m ∧ News g L h' rest := by
  have hn : ∀ a ∈ l, a ≠ L ∧ g.get? a = none := by
    intro a h1
    obtain ⟨p, hp, rfl⟩ := List.mem_map.mp (hl a h1)
    exact (N p (List.mem_append_left _ hp)).2
  refine ⟨⟨F.ns.at' fun o e => K _ o (fun q => (hn _ q).1 rfl) e, fun b o e => K b o (fun q => by rw [(hn b q).2] at e; cases e) (F.keep b o e), F.above⟩, fun p hp => ?_⟩
  have z := N p (List.mem_append_right _ hp)
  exact ⟨K _ _ (hr p hp) z.1, z.2⟩
/-- the lexer's state in a frame of one of its methods -/
inductive TokSt (w : World) (a : LexA) (g : Heap) (L I B : Addr) (tI : Tok) (np : Nat) (K : Int) (rem : List Nat) (h : Heap) (m : Str → Option Value) : Prop
  | mk (ln : Int) (tl : Tok) (left : List Value) (nl : Nat) (F : Fr g L h m) (N : News g L h (a.objs w ln tl left nl #[] np ++ [(I, ciObj (.ref B) (.str "" tI) false), (B, methodObj (.ref 98) (.ref a.X))])) (hW : Words left (rem.map fun c => [c])) (h0 : 0 ≤ ln) (hK : ln + (rem.count 10 : Nat) = K)
theorem count_hd (c : Nat) (r : List Nat) : (((c :: r).count 10 : Nat) : Int) = (if (c :: r).head? = some 10 then 1 else 0) + (r.count 10 : Nat) := by
  by_cases h : c = 10
  · subst h; rw [if_pos (by rfl), List.count_cons_self]; omega
  · rw [if_neg (by simpa using h), List.count_cons_of_ne h]; omega
theorem mem_dl {a : LexA} {w : World} {ln : Int} {tl : Tok} {left : List Value} {nl : Nat} {pb : Array Value} {np : Nat} : ∀ b ∈ [a.dX, a.LD], b ∈ (a.objs w ln tl left nl pb np).map (·.1) := by
  intro b hb
  simp only [List.mem_cons, List.not_mem_nil, or_false] at hb
  rcases hb with rfl | rfl <;> simp
inductive TokOk (w : World) (a : LexA) (g : Heap) (L I B : Addr) (tI : Tok) (np : Nat) (K : Int) (J : Nat → List Nat → (Str → Option Value) → Prop) (n : Nat) (s₀ : Array GenState × Drawn × OsState) (s₃ : Shared) : Prop
  | mk (h' : Heap) (tk' : Nat) (m' : Str → Option Value) (n' : Nat) (rem' : List Nat) (e : s₃ = { heap := h', gens := s₀.1, drawn := s₀.2.1, toks := tk', os := s₀.2.2 }) (hn : n' < n) (st : TokSt w a g L I B tI np K rem' h' m') (hj : J n' rem' m')
noncomputable def TokTurn (w : World) (a : LexA) (g : Heap) (L I B : Addr) (tI : Tok) (np : Nat) (K : Int) (J : Nat → List Nat → (Str → Option Value) → Prop) (n : Nat) (s : Shared) (Q : Flow → Shared → Prop) (f : Flow) (s₃ : Shared) : Prop :=
  match f with
  | .ret v => Q (.ret v) s₃
  | .brk => False
  | _ => TokOk w a g L I B tI np K J n (s.gens, s.drawn, s.os) s₃
theorem tokLoop (w : World) (a : LexA) (ok : a.Ok w) {dp un : Nat} {fr : Option (List Env)} {gd : Option (List Code)} {s : Shared} {env : Env} {body : List Stmt} {px : Pos} {g : Heap} {I B : Addr} {tI : Tok} {np : Nat} {K : Int}
    {Q : Flow → Shared → Prop} {X : Value → Shared → Prop} {m₀ : Str → Option Value} {rem₀ : List Nat} {n₀ : Nat} (J : Nat → List Nat → (Str → Option Value) → Prop)
    (hx : env.kindOf "ch" = some .local) (hp : (env.scope.kind == .class || (env.scope.kind == .module && env.locals != env.globals)) = false)
    (G : Gd w g) (hf : fnIn (hd.heap_39 w.params) 98 = true) (hdp : dp + 10 < 1000) (hun : un + 120 < 9900) (hK : K ≤ 1000) (h1 : @LT.lt Nat _ a.P B) (h2 : @LT.lt Nat _ B I)
    (hlen : ∀ n rem m, J n rem m → rem.length ≤ 200)
    (st : TokSt w a g env.locals I B tI np K rem₀ s.heap m₀) (hj : J n₀ rem₀ m₀)
    (turn : ∀ n c rem m h tk t, J n (c :: rem) m → TokSt w a g env.locals I B tI np K rem h (fun y => if y = "ch" then some (.str (sx [c]) t) else m y) →
      wpAny (model PySem.Challenge.rw_sw0018_01.row.prog w) (Ar dp un fr gd) (execs body env) (TokTurn w a g env.locals I B tI np K J n s Q) (fun _ _ => False) { s with heap := h, toks := tk })
    (done : ∀ n m h tk ln tl left nl, J n [] m → Fr g env.locals h m → News g env.locals h (a.objs w ln tl left nl #[] np) → Words left [] → ln = K → Q .next { s with heap := h, toks := tk }) :
    codeAny (model PySem.Challenge.rw_sw0018_01.row.prog w) (Ar dp un fr gd) (.forLoop (.Name "ch" px) (.ref I) body [] env) (fun r s' => match r with | .ok f => Q f s' | .error e => X e s') s := by
  refine codeAny_forLoop (fun n s' => ∃ h' tk m' rem, s' = { s with heap := h', toks := tk } ∧ TokSt w a g env.locals I B tI np K rem h' m' ∧ J n rem m') ?_ n₀ ⟨s.heap, s.toks, m₀, rem₀, rfl, st, hj⟩
  rintro n s' ⟨h, tk, m, rem, rfl, ⟨ln, tl, left, nl, F, N, hW, hl0, hlK⟩, hJ⟩
  have o1 := ok.o1; have o2 := ok.o2; have o3 := ok.o3; have o4 := ok.o4; have o5 := ok.o5; have o6 := ok.o6; have o7 := ok.o7; have o8 := ok.o8
  have hI := (N (I, ciObj (.ref B) (.str "" tI) false) (List.mem_append_right _ (.head _)))
  have hB := (N (B, methodObj (.ref 98) (.ref a.X)) (List.mem_append_right _ (.tail _ (.head _))))
  have hIn : I ∉ [a.dX, a.LD] := by
    intro q
    simp only [List.mem_cons, List.not_mem_nil, or_false] at q
    rcases q with q | q <;> (revert q; show I ≠ _; k_ne)
  have hBn : B ∉ [a.dX, a.LD] := by
    intro q
    simp only [List.mem_cons, List.not_mem_nil, or_false] at q
    rcases q with q | q <;> (revert q; show B ≠ _; k_ne)
  have hrest : ∀ p ∈ [(I, ciObj (.ref B) (.str "" tI) false), (B, methodObj (.ref 98) (.ref a.X))], p.1 ∉ [a.dX, a.LD] := by
    intro p hp
    rcases List.mem_cons.mp hp with rfl | hp
    · exact hIn
    · rw [List.mem_singleton.mp hp]; exact hBn
  have hlr := hlen _ _ _ hJ
  have KX := G.X
  have e98 : ∃ fc fod ffd fsl, g.get? 98 = some (⟨fc, fod, .func ffd, fsl⟩ : Obj) := by
    unfold fnIn at hf
    split at hf
    · rename_i q
      exact ⟨_, _, _, _, KX _ _ q⟩
    · cases hf
  obtain ⟨fc, fod, ffd, fsl, e98⟩ := e98
  have hG : Gd w (hideAll h ((a.objs w ln tl left nl #[] np).map (·.1))) := G.hide F.keep fun b hb => by
    obtain ⟨p, hp, rfl⟩ := List.mem_map.mp hb
    exact (N p (List.mem_append_left _ hp)).2.2
  cases rem with
  | nil =>
    refine ci_end rfl hI.1 hB.1 (F.keep _ _ e98) (c_read w a ok ln tl left nl #[] np [] dp (un + 1) fr gd _ _ hW (by simp) ⟨hl0, by omega⟩ (fun p hp => (N p (List.mem_append_left _ hp)).1) hG (by omega) (by omega) ?_)
    intro h' t' tk' tl' left' nl' Kb hW' e'
    have hw0 : left' = [] := by cases hW'; rfl
    subst hw0
    obtain ⟨F', N'⟩ := liftObjs Kb F N (objs' := a.objs w ln tl' [] nl' #[] np) rfl e' mem_dl hrest
    refine ⟨t', rfl, (N' (I, _) (List.mem_append_right _ (.head _))).1, (N' (B, _) (List.mem_append_right _ (.tail _ (.head _)))).1, F'.keep _ _ e98, fun h'' Kb' => ?_⟩
    obtain ⟨F'', N''⟩ := liftDrop (objs := [(I, ciObj (.ref B) (.str "" tI) false), (B, methodObj (.ref 98) (.ref a.X))]) (rest := a.objs w ln tl' [] nl' #[] np) Kb' F' (fun p hp => N' p (by
      rcases List.mem_append.mp hp with hp | hp
      · exact List.mem_append_right _ hp
      · exact List.mem_append_left _ hp)) (by intro b hb; rw [List.mem_singleton.mp hb]; simp) (by
      intro p hp q
      replace q := List.mem_singleton.mp q
      simp only [LexA.objs, List.mem_cons, List.not_mem_nil, or_false] at hp
      rcases hp with rfl | rfl | rfl | rfl | rfl | rfl | rfl | rfl | rfl <;> (revert q; show _ ≠ I; k_ne))
    exact wpAny_execs_nil (done n m h'' tk' ln tl' [] nl' hJ F'' N'' .nil (by simpa using hlK))
  | cons c rem =>
    refine ci_next hI.1 hB.1 (F.keep _ _ e98) (c_read w a ok ln tl left nl #[] np (c :: rem) dp (un + 1) fr gd _ _ hW hlr ⟨hl0, by omega⟩ (fun p hp => (N p (List.mem_append_left _ hp)).1) hG (by omega) (by omega) ?_)
    intro h' t' tk' tl' left' nl' Kb hW' e'
    obtain ⟨F', N'⟩ := liftObjs Kb F N (objs' := a.objs w (if (c :: rem).head? = some 10 then ln + 1 else ln) tl' left' nl' #[] np) rfl e' mem_dl hrest
    refine ⟨[c], t', rfl, (N' (I, _) (List.mem_append_right _ (.head _))).1, by simp, ?_⟩
    refine wpAny_assign_Name (wpAny_storeName_local hx F'.ns (fun h₂ hn₂ hs₂ => ?_) hp)
    have F₂ := F'.set hn₂ hs₂
    have N₂ := N'.set hs₂
    have hc := count_hd c rem
    refine wpAny_mono (turn n c rem m h₂ _ t' hJ ⟨_, tl', left', nl', F₂, N₂, hW', by split <;> omega, by rw [← hlK, hc]; split <;> omega⟩) (fun f s₃ h₃ => ?_) fun _ _ e => e.elim
    have fin : TokOk w a g env.locals I B tI np K J n (s.gens, s.drawn, s.os) s₃ →
        ∃ k, k < n ∧ ∃ h' tk m' rem, s₃ = { s with heap := h', toks := tk } ∧ TokSt w a g env.locals I B tI np K rem h' m' ∧ J k rem m' := by
      rintro ⟨h₃', tk₃, m₃, n₃, rem₃, rfl, hn, st₃, hJ₃⟩
      exact ⟨n₃, hn, h₃', tk₃, m₃, rem₃, rfl, st₃, hJ₃⟩
    cases f with
    | next => exact fin h₃
    | cont => exact fin h₃
    | brk => exact h₃.elim
    | ret v => exact h₃
theorem readIn (w : World) (a : LexA) (ok : a.Ok w) {dp un : Nat} {fr : Option (List Env)} {gd : Option (List Code)} {s : Shared} {g : Heap} {L I B : Addr} {tI : Tok} {np : Nat} {m : Str → Option Value} {ln : Int} {tl : Tok} {left : List Value} {nl : Nat} {c : Nat} {cs : List Nat}
    {Q E : Value → Shared → Prop} (G : Gd w g) (F : Fr g L s.heap m) (N : News g L s.heap (a.objs w ln tl left nl #[] np ++ [(I, ciObj (.ref B) (.str "" tI) false), (B, methodObj (.ref 98) (.ref a.X))]))
    (h1 : @LT.lt Nat _ a.P B) (h2 : @LT.lt Nat _ B I) (hW : Words left ((c :: cs).map fun c => [c])) (hl : (c :: cs).length ≤ 200) (hln : 0 ≤ ln ∧ ln ≤ 1000) (hdp : dp + 10 < 1000) (hun : un + 100 < 9900)
    (ret : ∀ h' t' tk' tl' left' nl' ln', Fr g L h' m → News g L h' (a.objs w ln' tl' left' nl' #[] np ++ [(I, ciObj (.ref B) (.str "" tI) false), (B, methodObj (.ref 98) (.ref a.X))]) → Words left' (cs.map fun c => [c]) → ln' + (cs.count 10 : Nat) = ln + ((c :: cs).count 10 : Nat) → 0 ≤ ln' →
      Q (.str (sx [c]) t') { s with heap := h', toks := tk' }) :
    wpAny (model PySem.Challenge.rw_sw0018_01.row.prog w) (Ar dp un fr gd) (call (.ref 98) [.ref a.X]) Q E s := by
  have o1 := ok.o1; have o2 := ok.o2; have o3 := ok.o3; have o4 := ok.o4; have o5 := ok.o5; have o6 := ok.o6; have o7 := ok.o7; have o8 := ok.o8
  have hrest : ∀ p ∈ [(I, ciObj (.ref B) (.str "" tI) false), (B, methodObj (.ref 98) (.ref a.X))], p.1 ∉ [a.dX, a.LD] := by
    intro p hp q
    simp only [List.mem_cons, List.not_mem_nil, or_false] at hp q
    rcases hp with rfl | rfl <;> rcases q with q | q <;> first | (revert q; show I ≠ _; k_ne) | (revert q; show B ≠ _; k_ne)
  refine wpAny_call (c_read w a ok ln tl left nl #[] np (c :: cs) dp un fr gd _ _ hW hl hln (fun p hp => (N p (List.mem_append_left _ hp)).1) (G.hide F.keep fun b hb => ?_) hdp hun ?_)
  · obtain ⟨p, hp, rfl⟩ := List.mem_map.mp hb
    exact (N p (List.mem_append_left _ hp)).2.2
  · intro h' t' tk' tl' left' nl' Kb hW' e'
    obtain ⟨F', N'⟩ := liftObjs Kb F N (objs' := a.objs w (if (c :: cs).head? = some 10 then ln + 1 else ln) tl' left' nl' #[] np) rfl e' mem_dl hrest
    have hc := count_hd c cs
    exact ret h' t' tk' tl' left' nl' _ F' N' hW' (by rw [hc]; split <;> omega) (by split <;> omega)
theorem iadd_sxK {prog : Program} {w : World} {A : Around} {E : Value → Shared → Prop} {s : Shared} {x y : List Nat} {t u : Tok} {Q : Value → Shared → Prop} (hl : x.length + y.length ≤ 4096) (h : ∀ t' tk, Q (.str (sx (x ++ y)) t') { s with toks := tk }) :
    wpAny (model prog w) A (inplaceOp .Add (.str (sx x) t) (.str (sx y) u)) Q E s :=
  PyProof.Rows.iadd_str (fun t' tk => by rw [add_sx]; exact h t' tk) (by rw [sx_len, sx_len, sizeLine_eq]; omega)

end
section
local macro_rules | `(tactic| walk_at "call builtin:iter") => `(tactic| (k_here; (with_reducible show wpAny _ _ (call (Value.builtin "iter") [Value.ref _, Value.str _ _]) _ _ _); (refine' Mine.iter2 ?F ?N ?m ?_; (case F => k_asm); (case N => k_asm); (case m => k_mem)); intro I' h' F' N' l1; (try k_lt l1); (try k_sweep)))
local macro_rules | `(tactic| walk_at "inplaceOp Add str str") => `(tactic| (k_here; (with_reducible show wpAny _ _ (inplaceOp Operator.Add (Value.str (Mine.sx _) _) (Value.str (Mine.sx _) _)) _ _ _); (refine Mine.iadd_sxK ?a ?_; (case a => first | omega | (simp only [List.length_cons, List.length_nil, List.length_append]; omega))); intro t' tk'))
section
noncomputable def isWs (w : Nat) : Bool := w == 10 || w == 9 || w == 13 || w == 32
noncomputable def shield (q : List Nat) : List Nat := q.flatMap fun c => [92, c]
/-- what one token reads off -/
inductive Tk : List Nat → List Nat → List Nat → Prop
  | stop : Tk [] [] []
  | skip {w : Nat} {cs t r : List Nat} : isWs w = true → Tk cs t r → Tk (w :: cs) t r
  | bare {c w : Nat} {q r : List Nat} : isWs w = true → Tk (92 :: c :: (shield q ++ w :: r)) (c :: q) r
  | quo {q r : List Nat} : Tk (34 :: (shield q ++ 34 :: r)) q r
theorem shield_len (q : List Nat) : (shield q).length = 2 * q.length := by
  induction q with
  | nil => rfl
  | cons a r ih => show (92 :: a :: shield r).length = _; simp only [List.length_cons, ih]; omega
theorem obj_cases {w : World} {a : LexA} {ln ln' : Int} {tl tl' : Tok} {left left' : List Value} {nl nl' np : Nat} {pb : Array Value} : ∀ p ∈ a.objs w ln tl left nl pb np, p.1 ∈ [a.dX, a.LD] ∨ p ∈ a.objs w ln' tl' left' nl' pb np := by
  intro p hp
  simp only [LexA.objs, List.mem_cons, List.not_mem_nil, or_false] at hp
  rcases hp with rfl | rfl | rfl | rfl | rfl | rfl | rfl | rfl | rfl <;> simp
theorem occ_ws {c : Nat} (h : isWs c = true) : (Builtin.Str.occurrences "\n\t\r " (sx [c]) 0 ("\n\t\r " : Str).length 1).isEmpty = false := by
  unfold isWs at h
  simp only [Bool.or_eq_true, beq_iff_eq] at h
  rcases h with ((rfl | rfl) | rfl) | rfl <;> decide +kernel
theorem occ_92 : (Builtin.Str.occurrences "\n\t\r " (sx [92]) 0 ("\n\t\r " : Str).length 1).isEmpty = true := by decide +kernel
theorem occ_34 : (Builtin.Str.occurrences "\n\t\r " (sx [34]) 0 ("\n\t\r " : Str).length 1).isEmpty = true := by decide +kernel
theorem tok_news {w : World} {a : LexA} {g h : Heap} {L I B : Addr} {tI : Tok} {ln : Int} {tl : Tok} {left : List Value} {nl np : Nat}
    (N : News g L h ((I, ciObj (.ref B) (.str "" tI) false) :: (B, methodObj (.ref 98) (.ref a.X)) :: a.objs w ln tl left nl #[] np)) : News g L h (a.objs w ln tl left nl #[] np ++ [(I, ciObj (.ref B) (.str "" tI) false), (B, methodObj (.ref 98) (.ref a.X))]) := by
  intro p hp
  rcases List.mem_append.mp hp with hp | hp
  · exact N p (.tail _ (.tail _ hp))
  · rcases List.mem_cons.mp hp with rfl | hp
    · exact N _ (.head _)
    · rw [List.mem_singleton.mp hp]; exact N _ (.tail _ (.head _))
theorem sub_tok {m : Str → Option Value} {bs : List (Str × Value)} {I X : Addr} {tt : Tok} (H : Has m bs) (h1 : bs.lookup ("fiter" : Str) = some (.ref I)) (h2 : bs.lookup ("token" : Str) = some (.str "" tt)) (h3 : bs.lookup ("self" : Str) = some (.ref X)) :
    Has m [("fiter", .ref I), ("token", .str (sx []) tt), ("self", .ref X)] := H.sub ⟨h1, h2, h3, trivial⟩
local macro_rules | `(tactic| walk_at "call ref") => `(tactic| (k_here; (with_reducible show wpAny _ _ (call (Value.ref 98) _) _ _ _); refine Mine.Stop.out ?_))
set_option maxHeartbeats 8000000 in
theorem c_token (w : World) (a : LexA) (ok : a.Ok w) (ln : Int) (tl : Tok) (left : List Value) (nl : Nat) (np : Nat) (cs tok r : List Nat)
   (dp un : Nat) (fr : Option (List Env)) (gd : Option (List Code)) (s : Shared) (Q E : Value → Shared → Prop)
   (hT : Tk cs tok r) (hW : Words left (cs.map fun c => [c])) (hcs : cs.length ≤ 200) (hln : 0 ≤ ln ∧ ln + (cs.count 10 : Nat) ≤ 1000) (e : ∀ p ∈ a.objs w ln tl left nl #[] np, s.heap.get? p.1 = some p.2)
   (Gh : Gd w (hideAll s.heap ((a.objs w ln tl left nl #[] np).map (·.1)))) (hdp : dp + 20 < 1000) (hun : un + 300 < 9900)
   (ret : ∀ h' t' tk' tl' left' nl' ln', But [a.dX, a.LD] s.heap h' → Words left' (r.map fun c => [c]) → ln' + (r.count 10 : Nat) = ln + (cs.count 10 : Nat) → 0 ≤ ln' → (∀ p ∈ a.objs w ln' tl' left' nl' #[] np, h'.get? p.1 = some p.2) → Q (.str (sx tok) t') { s with heap := h', toks := tk' }) :
   wpAny (model PySem.Challenge.rw_sw0018_01.row.prog w) (Ar dp un fr gd) (call (.ref 105) [.ref a.X]) Q E s := by
  have o1 := ok.o1; have o2 := ok.o2; have o3 := ok.o3; have o4 := ok.o4; have o5 := ok.o5; have o6 := ok.o6; have o7 := ok.o7; have o8 := ok.o8
  obtain ⟨g2, N0, G2, Kx, Kz, fin⟩ := hid e Gh
  clear Gh
  w_on
  have KX := G2.X
  obtain ⟨p, loose, mg, mb, T⟩ := G2.T
  revert KX
  k_fill
  intro KX
  have G' : Gd w s.heap := G2.keeps Kx
  refine wpAny_call ?_
  refine' enterX (A := Ar dp un fr gd) (binds := [("self", .ref a.X)]) rfl Kx Kz N0 G' ?room ?ho ?hcd ?hb ?hl ?k1 ?k2 ?k3 ?k4 ?_
  case room => simp only [recursionLimit]; omega
  case ho => k_is
  case hcd => k_is
  case hb => exact BindsTo.of_eq rfl
  case hl => exact locs rfl
  case k1 => exact rfl
  case k2 => exact rfl
  case k3 => exact rfl
  case k4 => decide
  clear G'
  intro L h₁ tk m fr' hL F H N K1
  dsimp only [List.reverse, List.reverseAux] at H
  dsimp only [LexA.objs, lexEs] at N
  have hf98 : fnIn (hd.heap_39 w.params) 98 = true := by k_is
  (try k_unmd)
  k_fold
  k_steps
  rename Fr _ _ _ _ => F9
  rename News _ _ _ _ => N9
  rename Has _ _ => H9
  refine Stop.mk ?_
  refine pyIter_ci (N9 _ (.head _)).1 rfl ?_
  have H8 := sub_tok H9 rfl rfl rfl
  refine' tokLoop w a ok (K := ln + (cs.count 10 : Nat)) (rem₀ := cs) (n₀ := cs.length) (fun n rem m => Tk rem tok r ∧ n = rem.length ∧ rem.length ≤ 200 ∧ ∃ tt, Has m [("fiter", .ref _), ("token", .str (sx []) tt), ("self", .ref a.X)]) ?hx ?hp G2 hf98 ?d ?u hln.2 ?b1 ?b2 (fun n rem m h => h.2.2.1) ⟨ln, tl, left, nl, F9, tok_news N9, hW, hln.1, rfl⟩ ⟨hT, rfl, hcs, _, H8⟩ ?turn ?done
  case hx => exact rfl
  case hp => exact rfl
  case d => omega
  case u => omega
  case b1 => omega
  case b2 => omega
  case turn =>
    intro n c rem m h tk t hJ hst
    obtain ⟨hT, hn, hl, tt, H⟩ := hJ
    replace H := H.put "ch" (.str (sx [c]) t)
    obtain ⟨ln2, tl2, left2, nl2, F, N, hW2, hl2, hK2⟩ := hst
    dsimp only [LexA.objs, lexEs, List.cons_append, List.nil_append] at N
    clear F9 N9 H9 H8
    have hl1 : [c].length = 1 := rfl
    cases hT with
    | skip hw hT =>
      k_steps
      all_goals first | (exfalso; (rename (List.isEmpty _ = true) => q); rw [occ_ws hw] at q; cases q; done) | skip
      dsimp only
      (rename Fr _ _ _ _ => F9)
      (rename News _ _ _ _ => N9)
      simp only [List.length_cons] at hl hn
      exact ⟨_, _, _, rem.length, rem, rfl, by omega, ⟨ln2, tl2, left2, nl2, F9, N9, hW2, hl2, hK2⟩, hT, rfl, by omega, tt, H.sub ⟨rfl, rfl, rfl, trivial⟩⟩
    | @bare c1 w1 q1 _ hw =>
      k_steps
      all_goals first | (exfalso; (rename (List.isEmpty _ = false) => q); rw [occ_92] at q; cases q; done) | skip
      (rename Fr _ _ _ _ => F9)
      (rename News _ _ _ _ => N9)
      simp only [List.length_cons] at hl
      have hstl : 2 * q1.length ≤ 200 := by rw [← shield_len]; simp only [List.length_append] at hl; omega
      have hdl1 : [c1].length = 1 := rfl
      have hdl0 : ([] : List Nat).length = 0 := rfl
      refine Stop.mk ?_
      refine readIn w a ok G2 F9 N9 (by omega) (by omega) hW2 (by simp only [List.length_cons]; omega) ⟨hl2, by omega⟩ (by omega) (by omega) ?_
      intro h' t' tk' tl' left' nl' ln' F' N' hW' hK' hl'
      dsimp only [LexA.objs, lexEs, List.cons_append, List.nil_append] at N'
      clear F9 N9
      k_steps
      (rename Fr _ _ _ _ => F9)
      (rename News _ _ _ _ => N9)
      (rename Has _ _ => H9)
      refine Stop.mk ?_
      refine pyIter_ci (N9 (_, ciObj _ _ _) (by k_mem)).1 rfl ?_
      refine' tokLoop w a ok (np := np) (K := ln + (cs.count 10 : Nat)) (rem₀ := shield q1 ++ w1 :: r) (n₀ := q1.length) (fun n rem m => ∃ q t0 tt, rem = shield q ++ w1 :: r ∧ t0 ++ q = c1 :: q1 ∧ n = q.length ∧ rem.length ≤ 200 ∧ Has m [("fiter", .ref _), ("token", .str (sx t0) tt), ("self", .ref a.X)])
        ?hx3 ?hp3 G2 hf98 ?d3 ?u3 hln.2 ?b13 ?b23 (fun n rem m h => by obtain ⟨_, _, _, _, _, _, h, _⟩ := h; exact h) ⟨ln', tl', left', nl', F9, N9, hW', hl', by omega⟩ ⟨q1, [c1], _, rfl, rfl, rfl, by omega, H9.sub ⟨rfl, rfl, rfl, trivial⟩⟩ ?turn3 ?done3
      case hx3 => exact rfl
      case hp3 => exact rfl
      case d3 => omega
      case u3 => omega
      case b13 => omega
      case b23 => omega
      case done3 =>
        intro n m h tk ln2 tl2 left2 nl2 hJ
        obtain ⟨q, t0, tt, hr, _⟩ := hJ
        cases q <;> cases hr
      case turn3 =>
        intro n c rem m h tk t hJ hst
        obtain ⟨q, t0, tt, hr, ht, hn, hl, H⟩ := hJ
        replace H := H.put "ch" (.str (sx [c]) t)
        obtain ⟨ln3, tl3, left3, nl3, F, N, hW3, hl3, hK3⟩ := hst
        dsimp only [LexA.objs, lexEs, List.cons_append, List.nil_append] at N
        clear F9 N9 H9
        cases q with
        | nil =>
          have hr' : c :: rem = w1 :: r := hr
          cases hr'
          rw [List.append_nil] at ht
          subst ht
          k_steps
          all_goals first | (exfalso; (rename (List.isEmpty _ = true) => q); rw [occ_ws hw] at q; cases q; done) | skip
          dsimp only
          repeat (k_unfold; try dsimp only)
          (rename Fr _ _ _ _ => F9)
          (rename News _ _ _ _ => N9)
          have NA : News g2 L _ (a.objs w ln3 tl3 left3 nl3 #[] np ++ [_, _]) := N9
          exact ret _ _ _ tl3 left3 nl3 ln3 (fin _ _ _ _ _ F9 NA fun p hp => (obj_cases p hp).imp id (List.mem_append_left _)) hW3 hK3 hl3 (fun p hp => (NA p (List.mem_append_left _ hp)).1)
        | cons d q =>
          have hr' : c :: rem = 92 :: d :: (shield q ++ w1 :: r) := hr
          cases hr'
          k_steps
          all_goals first | (exfalso; (rename (List.isEmpty _ = false) => q); rw [occ_92] at q; cases q; done) | skip
          refine Stop.mk ?_
          (rename Fr _ _ _ _ => F9)
          (rename News _ _ _ _ => N9)
          (rename Has _ _ => H9)
          simp only [List.length_cons] at hl hn
          have hdl : [d].length = 1 := rfl
          refine readIn w a ok G2 F9 N9 (by omega) (by omega) hW3 (by simp only [List.length_cons]; omega) ⟨hl3, by omega⟩ (by omega) (by omega) ?_
          intro h' t' tk' tl' left' nl' ln' F' N' hW' hK' hl'
          dsimp only [LexA.objs, lexEs, List.cons_append, List.nil_append] at N'
          clear F9 N9
          have ht2 := congrArg List.length ht
          simp only [List.length_append, List.length_cons] at ht2
          k_steps
          (rename Fr _ _ _ _ => F9)
          (rename News _ _ _ _ => N9)
          (rename Has _ _ => H9)
          exact ⟨_, _, _, q.length, _, rfl, by omega, ⟨ln', tl', left', nl', F9, N9, hW', hl', by omega⟩, q, t0 ++ [d], _, rfl, by rw [← ht]; simp, rfl, by simp only [List.length_append, List.length_cons] at hl ⊢; omega, H9.sub ⟨rfl, rfl, rfl, trivial⟩⟩
    | quo =>
      k_steps
      all_goals first | (exfalso; (rename (List.isEmpty _ = false) => q); rw [occ_34] at q; cases q; done) | skip
      (rename Fr _ _ _ _ => F9)
      (rename News _ _ _ _ => N9)
      simp only [List.length_cons] at hl
      have hstl : 2 * tok.length ≤ 200 := by rw [← shield_len]; simp only [List.length_append] at hl; omega
      refine Stop.mk ?_
      refine pyIter_ci (N9 (_, ciObj _ _ _) (by k_mem)).1 rfl ?_
      refine' tokLoop w a ok (np := np) (K := ln + (cs.count 10 : Nat)) (rem₀ := shield tok ++ 34 :: r) (n₀ := tok.length) (fun n rem m => ∃ q t0 tt, rem = shield q ++ 34 :: r ∧ t0 ++ q = tok ∧ n = q.length ∧ rem.length ≤ 200 ∧ Has m [("fiter", .ref _), ("token", .str (sx t0) tt), ("self", .ref a.X)])
        ?hx2 ?hp2 G2 hf98 ?d2 ?u2 hln.2 ?b12 ?b22 (fun n rem m h => by obtain ⟨_, _, _, _, _, _, h, _⟩ := h; exact h) ⟨ln2, tl2, left2, nl2, F9, N9, hW2, hl2, hK2⟩ ⟨tok, [], tt, rfl, rfl, rfl, by omega, H.sub ⟨rfl, rfl, rfl, trivial⟩⟩ ?turn2 ?done2
      case hx2 => exact rfl
      case hp2 => exact rfl
      case d2 => omega
      case u2 => omega
      case b12 => omega
      case b22 => omega
      case done2 =>
        intro n m h tk ln2 tl2 left2 nl2 hJ
        obtain ⟨q, t0, tt, hr, _⟩ := hJ
        cases q <;> cases hr
      case turn2 =>
        intro n c rem m h tk t hJ hst
        obtain ⟨q, t0, tt, hr, ht, hn, hl, H⟩ := hJ
        replace H := H.put "ch" (.str (sx [c]) t)
        obtain ⟨ln3, tl3, left3, nl3, F, N, hW3, hl3, hK3⟩ := hst
        dsimp only [LexA.objs, lexEs, List.cons_append, List.nil_append] at N
        clear F9 N9
        cases q with
        | nil =>
          have hr' : c :: rem = 34 :: r := hr
          cases hr'
          rw [List.append_nil] at ht
          subst ht
          k_steps
          dsimp only
          repeat (k_unfold; try dsimp only)
          (rename Fr _ _ _ _ => F9)
          (rename News _ _ _ _ => N9)
          have NA : News g2 L _ (a.objs w ln3 tl3 left3 nl3 #[] np ++ [_, _]) := N9
          exact ret _ _ _ tl3 left3 nl3 ln3 (fin _ _ _ _ _ F9 NA fun p hp => (obj_cases p hp).imp id (List.mem_append_left _)) hW3 hK3 hl3 (fun p hp => (NA p (List.mem_append_left _ hp)).1)
        | cons d q =>
          have hr' : c :: rem = 92 :: d :: (shield q ++ 34 :: r) := hr
          cases hr'
          k_steps
          refine Stop.mk ?_
          (rename Fr _ _ _ _ => F9)
          (rename News _ _ _ _ => N9)
          (rename Has _ _ => H9)
          simp only [List.length_cons] at hl hn
          have hdl : [d].length = 1 := rfl
          refine readIn w a ok G2 F9 N9 (by omega) (by omega) hW3 (by simp only [List.length_cons]; omega) ⟨hl3, by omega⟩ (by omega) (by omega) ?_
          intro h' t' tk' tl' left' nl' ln' F' N' hW' hK' hl'
          dsimp only [LexA.objs, lexEs, List.cons_append, List.nil_append] at N'
          clear F9 N9
          have ht2 := congrArg List.length ht
          simp only [List.length_append, List.length_cons] at ht2
          k_steps
          (rename Fr _ _ _ _ => F9)
          (rename News _ _ _ _ => N9)
          (rename Has _ _ => H9)
          exact ⟨_, _, _, q.length, _, rfl, by omega, ⟨ln', tl', left', nl', F9, N9, hW', hl', by omega⟩, q, t0 ++ [d], _, rfl, by rw [← ht]; simp, rfl, by simp only [List.length_append, List.length_cons] at hl ⊢; omega, H9.sub ⟨rfl, rfl, rfl, trivial⟩⟩
  case done =>
    intro n m h tk ln2 tl2 left2 nl2 hJ F N hW2 hl2
    obtain ⟨hT, _, _, tt, H⟩ := hJ
    clear F9 N9 H9 H8
    dsimp only [LexA.objs, lexEs] at N
    cases hT
    k_steps
    dsimp only
    repeat (k_unfold; try dsimp only)
    (rename Fr _ _ _ _ => F9)
    (rename News _ _ _ _ => N9)
    have hw0 : left2 = [] := by cases hW2; rfl
    subst hw0
    exact ret _ _ _ tl2 [] nl2 ln2 (fin _ _ _ _ _ F9 N9 obj_cases) .nil (by rw [hl2]; simp) (by omega) (fun p hp => (N9 p hp).1)

end
section
theorem truthy_cons {prog : Program} {w : World} {A : Around} {E : Value → Shared → Prop} {s : Shared} {h₀ : Heap} {L l : Addr} {news : List (Addr × Obj)} {p : List Value} {y : Value} {n : Nat} {Q : Bool → Shared → Prop} (N : News h₀ L s.heap news) (hm : (l, listOf (y :: p).toArray n) ∈ news) (hz : p.length ≤ 4095)
    (h : ∀ tk, Q true { s with toks := tk }) : wpAny (model prog w) A (truthy (.ref l)) Q E s :=
  truthy_made N hm (by simp; omega) fun tk => h tk
theorem pop0_made {prog : Program} {w : World} {A : Around} {E : Value → Shared → Prop} {s : Shared} {h₀ : Heap} {L D : Addr} {m : Str → Option Value} {news news' : List (Addr × Obj)} {p : List Value} {y : Value} {n : Nat} {u : Tok} {Q : Value → Shared → Prop} (F : Fr h₀ L s.heap m) (N : News h₀ L s.heap news)
    (U : Upd D (listOf (y :: p).toArray n) (listOf p.toArray (n + 1)) news news') (hz : p.length ≤ 4095) (h : ∀ h', Fr h₀ L h' m → News h₀ L h' news' → Q y { s with heap := h' }) :
    wpAny (model prog w) A (call (.builtin "list.pop") [.ref D, .int 0 u]) Q E s :=
  kl_popAt (k := 0) (p := []) (q := p) (y := y) F N rfl (by simp [seqIndex?]) rfl U (by rw [sizeLine_eq]; simp; omega) h
local macro_rules | `(tactic| walk_at "truthy ref") => `(tactic| (k_here; (refine' Mine.truthy_cons ?N ?m ?z ?_; (case N => k_asm); (case m => k_mem); (case z => omega)); intro tk'))
local macro_rules | `(tactic| walk_at "call builtin:list.pop") => `(tactic| (k_here; (try dsimp only); (with_reducible show wpAny _ _ (call (Value.builtin _) [Value.ref _, Value.int _ _]) _ _ _); (refine' Mine.pop0_made ?F ?N ?U ?z ?_; (case F => k_asm); (case N => k_asm); (case U => k_upd); (case z => omega)); intro h' F' N'; (try k_sweep)))
theorem objP_cases {w : World} {a : LexA} {ln : Int} {tl : Tok} {left : List Value} {nl np np' : Nat} {pb pb' : Array Value} : ∀ p ∈ a.objs w ln tl left nl pb np, p.1 ∈ [a.P] ∨ p ∈ a.objs w ln tl left nl pb' np' := by
  intro p hp
  simp only [LexA.objs, List.mem_cons, List.not_mem_nil, or_false] at hp
  rcases hp with rfl | rfl | rfl | rfl | rfl | rfl | rfl | rfl | rfl <;> simp
set_option maxHeartbeats 8000000 in
theorem c_push (w : World) (a : LexA) (ok : a.Ok w) (ln : Int) (tl : Tok) (left : List Value) (nl np : Nat) (v : Value) (pb : Array Value)
   (dp un : Nat) (fr : Option (List Env)) (gd : Option (List Code)) (s : Shared) (Q E : Value → Shared → Prop)
   (hv : pb.size ≤ 100) (e : ∀ p ∈ a.objs w ln tl left nl pb np, s.heap.get? p.1 = some p.2)
   (Gh : Gd w (hideAll s.heap ((a.objs w ln tl left nl pb np).map (·.1)))) (hdp : dp + 20 < 1000) (hun : un + 300 < 9900)
   (ret : ∀ h' tk', But [a.P] s.heap h' → (∀ p ∈ a.objs w ln tl left nl (pb.push v) (np + 1), h'.get? p.1 = some p.2) → Q .none { s with heap := h', toks := tk' }) :
   wpAny (model PySem.Challenge.rw_sw0018_01.row.prog w) (Ar dp un fr gd) (call (.ref 112) [.ref a.X, v]) Q E s := by
  have o1 := ok.o1; have o2 := ok.o2; have o3 := ok.o3; have o4 := ok.o4; have o5 := ok.o5; have o6 := ok.o6; have o7 := ok.o7; have o8 := ok.o8
  obtain ⟨g2, N0, G2, Kx, Kz, fin⟩ := hid e Gh
  clear Gh
  w_on
  have KX := G2.X
  obtain ⟨p, loose, mg, mb, T⟩ := G2.T
  revert KX
  k_fill
  intro KX
  have G' : Gd w s.heap := G2.keeps Kx
  refine wpAny_call ?_
  refine' enterX (A := Ar dp un fr gd) (binds := [("self", .ref a.X), ("token", v)]) rfl Kx Kz N0 G' ?room ?ho ?hcd ?hb ?hl ?k1 ?k2 ?k3 ?k4 ?_
  case room => simp only [recursionLimit]; omega
  case ho => k_is
  case hcd => k_is
  case hb => exact BindsTo.of_eq rfl
  case hl => exact locs rfl
  case k1 => exact rfl
  case k2 => exact rfl
  case k3 => exact rfl
  case k4 => decide
  clear G'
  intro L h₁ tk m fr' hL F H N K1
  dsimp only [List.reverse, List.reverseAux] at H
  dsimp only [LexA.objs, lexEs] at N
  have hU : UpdP a.P (listOf pb np) (a.objs w ln tl left nl pb np) (fun o' => [_, _, _, _, _, _, _, _, (a.P, o')]) := fun o' => by dsimp only [LexA.objs]; k_upd
  dsimp only [LexA.objs, lexEs] at hU
  (try k_unmd)
  k_fold
  k_steps
  (try dsimp only)
  repeat (k_unfold; try dsimp only)
  (rename Fr _ _ _ _ => F9)
  (rename News _ _ _ _ => N9)
  exact ret _ _ (fin _ _ _ _ _ F9 N9 objP_cases) (fun p hp => (N9 p hp).1)

set_option maxHeartbeats 8000000 in
theorem c_pop (w : World) (a : LexA) (ok : a.Ok w) (ln : Int) (tl : Tok) (left : List Value) (nl np : Nat) (v : Value) (vs : List Value)
   (dp un : Nat) (fr : Option (List Env)) (gd : Option (List Code)) (s : Shared) (Q E : Value → Shared → Prop)
   (hv : vs.length ≤ 100) (e : ∀ p ∈ a.objs w ln tl left nl (v :: vs).toArray np, s.heap.get? p.1 = some p.2)
   (Gh : Gd w (hideAll s.heap ((a.objs w ln tl left nl (v :: vs).toArray np).map (·.1)))) (hdp : dp + 20 < 1000) (hun : un + 300 < 9900)
   (ret : ∀ h' tk' np', But [a.P] s.heap h' → (∀ p ∈ a.objs w ln tl left nl vs.toArray np', h'.get? p.1 = some p.2) → Q v { s with heap := h', toks := tk' }) :
   wpAny (model PySem.Challenge.rw_sw0018_01.row.prog w) (Ar dp un fr gd) (call (.ref 105) [.ref a.X]) Q E s := by
  have o1 := ok.o1; have o2 := ok.o2; have o3 := ok.o3; have o4 := ok.o4; have o5 := ok.o5; have o6 := ok.o6; have o7 := ok.o7; have o8 := ok.o8
  obtain ⟨g2, N0, G2, Kx, Kz, fin⟩ := hid e Gh
  clear Gh
  w_on
  have KX := G2.X
  obtain ⟨p, loose, mg, mb, T⟩ := G2.T
  revert KX
  k_fill
  intro KX
  have G' : Gd w s.heap := G2.keeps Kx
  refine wpAny_call ?_
  refine' enterX (A := Ar dp un fr gd) (binds := [("self", .ref a.X)]) rfl Kx Kz N0 G' ?room ?ho ?hcd ?hb ?hl ?k1 ?k2 ?k3 ?k4 ?_
  case room => simp only [recursionLimit]; omega
  case ho => k_is
  case hcd => k_is
  case hb => exact BindsTo.of_eq rfl
  case hl => exact locs rfl
  case k1 => exact rfl
  case k2 => exact rfl
  case k3 => exact rfl
  case k4 => decide
  clear G'
  intro L h₁ tk m fr' hL F H N K1
  dsimp only [List.reverse, List.reverseAux] at H
  dsimp only [LexA.objs, lexEs] at N
  (try k_unmd)
  k_fold
  k_steps
  (try dsimp only)
  repeat (k_unfold; try dsimp only)
  (rename Fr _ _ _ _ => F9)
  (rename News _ _ _ _ => N9)
  exact ret _ _ _ (fin _ _ _ _ _ F9 N9 objP_cases) (fun p hp => (N9 p hp).1)

end
end
end
end
end
end
section
theorem const_sx {M : Model} {A : Around} {E : Value → Shared → Prop} {s : Shared} {env : Env} {x : Str} {k : Nat} {pos : Pos} {l : List Nat} {Q : Value → Shared → Prop} (e : x = sx l) (h : Q (.str (sx l) s.toks) { s with toks := s.toks + 1 }) : wpAny M A (eval (.Constant (.str x) k pos) env) Q E s := by
  subst e; exact wpAny_Constant_str h
theorem glue_sx : ∀ (ys : List (List Nat)) (acc : List Nat), (ys.map sx).foldl (fun (a : Array Nat) (p : Str) => a ++ ("" : Str).cps ++ p.cps) acc.toArray = (acc ++ ys.flatten).toArray
  | [], acc => by simp
  | y :: ys, acc => by
    rw [List.map_cons, List.foldl_cons]
    have e : acc.toArray ++ ("" : Str).cps ++ (sx y).cps = (acc ++ y).toArray := by
      show acc.toArray ++ #[] ++ y.toArray = _
      simp
    rw [e, glue_sx ys (acc ++ y)]
    simp
theorem join_sx0 (ys : List (List Nat)) : Txt.join "" (ys.map sx) = sx ys.flatten := by
  cases ys with
  | nil => rfl
  | cons y ys =>
    have := glue_sx ys y
    show (⟨(((y :: ys).map sx).drop 1).foldl (fun a p => a ++ ("" : Str).cps ++ p.cps) (((y :: ys).map sx).headD Str.empty).cps⟩ : Str) = _
    rw [List.map_cons]
    show (⟨(ys.map sx).foldl (fun a p => a ++ ("" : Str).cps ++ p.cps) (sx y).cps⟩ : Str) = _
    exact congrArg Str.mk this
theorem words_strs {vs : List Value} {ps : List (List Nat)} (h : Words vs ps) : StrsAre vs (ps.map sx) := by
  induction h with
  | nil => exact .nil
  | cons a _ ih => obtain ⟨t, rfl⟩ := a; exact .cons _ _ ih
theorem sum_sx : ∀ ps : List (List Nat), ((ps.map sx).map fun s : Str => s.length).sum = ps.flatten.length
  | [] => rfl
  | p :: ps => by
    have := sum_sx ps
    simp only [List.map_cons, List.sum_cons, List.flatten_cons, List.length_append, sx_len] at this ⊢
    omega
section
variable {prog : Program} {w : World} {A : Around} {E : Value → Shared → Prop} {s : Shared} {h₀ : Heap} {L : Addr} {m : Str → Option Value} {news : List (Addr × Obj)} {Q : Value → Shared → Prop}
theorem join_words {D : Addr} {ys : Array Value} {k : Nat} {ps : List (List Nat)} {t : Tok} (N : News h₀ L s.heap news) (hm : (D, listOf ys k) ∈ news) (hW : Words ys.toList ps) (h1 : ps.flatten.length ≤ 4000) (h2 : ps.length ≤ 4000)
    (h : ∀ t' k, Q (.str (sx ps.flatten) t') { s with toks := k }) : wpAny (model prog w) A (call (.builtin "str.join") [.str "" t, .ref D]) Q E s := by
  refine join_listW (News.isList N hm) (words_strs hW) (by decide +kernel) (by rw [sum_sx, List.length_map]; omega) fun t' k' => ?_
  rw [join_sx0]
  exact h t' k'
end
/-- the block '\\' + sign -/
noncomputable abbrev ShF (v y : Value) : Prop := ∃ c u u', v = .str (sx [c]) u ∧ y = .str (sx [92, c]) u'
theorem compq_shield {prog : Program} {w : World} {A : Around} {env : Env} {scope : Scope} {p1 p2 p3 : Pos} {u : Nat} {s : Shared}
    (hk : (relabel scope env).kind = .function) (hp : (relabel scope env).names.lookup ("sign" : Str) = some NameKind.local) :
    CompQ prog w A env scope [] "sign" [] (.BinOp (.Constant (.str "\\") u p1) .Add (.Name "sign" p2) p3) (fun v => ∃ c u, v = .str (sx [c]) u) (fun _ => true) ShF s := by
  constructor
  · rintro C v s₃ m₃ E' Qb hC _ hns hm hK hQ
    exact wpAny_pure (hQ _ _ Ext.rfl')
  · rintro C v s₃ m₃ E' Qv hC ⟨c, t, rfl⟩ _ hns hm hK hQ
    refine wpAny_BinOp (const_sx (l := [92]) (by decide +kernel) (ldVarK (s := { s₃ with toks := s₃.toks + 1 }) hns hm ?_ hk hp))
    refine add_sxK (by simp) fun t' tk' => ?_
    exact hQ _ _ _ ⟨c, t, t', rfl, rfl⟩ Ext.rfl'
theorem shield_words {vs ys : List Value} {p : List Nat} (hW : Words vs (p.map fun c => [c])) (hP : Paired ShF (vs.filter fun _ => true) ys) : Words ys (p.map fun c => [92, c]) := by
  have e : vs.filter (fun _ => true) = vs := List.filter_eq_self.mpr fun _ _ => rfl
  rw [e] at hP
  clear e
  induction p generalizing vs ys with
  | nil => cases hW; cases hP; exact .nil
  | cons c p ih =>
    rw [List.map_cons] at hW
    cases hW with
    | cons a r =>
      cases hP with
      | cons b r' =>
        obtain ⟨t, e1⟩ := a
        obtain ⟨c', u, u', e2, e3⟩ := b
        rw [e1] at e2
        have : c = c' := by
          have h1 := (Value.str.inj e2).1
          have h2 := congrArg (fun z : Str => z.cps.toList) h1
          simpa using h2
        subst this
        exact .cons ⟨u', e3⟩ (ih r r')
theorem shield_flat (p : List Nat) : (p.map fun c => [92, c]).flatten = shield p := rfl
/-- what one piece gives to the text -/
noncomputable def Seg (p seg : List Nat) : Prop := ∃ w, isWs w = true ∧ (seg = shield p ++ [w] ∨ seg = 34 :: (shield p ++ [34, w]))
theorem segs_len {qs segs : List (List Nat)} (h : Paired Seg qs segs) : segs.flatten.length ≤ 2 * qs.flatten.length + 3 * qs.length := by
  induction h with
  | nil => simp
  | cons a _ ih =>
    obtain ⟨w, _, e⟩ := a
    rcases e with rfl | rfl <;> simp only [List.flatten_cons, List.length_append, List.length_cons, List.length_nil, shield_len] <;> omega
noncomputable def Lead (l : List Nat) : Prop := l = [] ∨ ∃ w, isWs w = true ∧ l = [w]
theorem seg_tk {p seg lead rest : List Nat} (h : Seg p seg) (hp : p ≠ []) (hl : Lead lead) : ∃ lead', Lead lead' ∧ Tk (lead ++ (seg ++ rest)) p (lead' ++ rest) := by
  obtain ⟨w, hw, e⟩ := h
  have core : ∃ lead', Lead lead' ∧ Tk (seg ++ rest) p (lead' ++ rest) := by
    rcases e with rfl | rfl
    · obtain ⟨c, q, rfl⟩ : ∃ c q, p = c :: q := by cases p with | nil => exact absurd rfl hp | cons c q => exact ⟨c, q, rfl⟩
      refine ⟨[], .inl rfl, ?_⟩
      have : shield (c :: q) ++ [w] ++ rest = 92 :: c :: (shield q ++ w :: rest) := by
        show 92 :: c :: (shield q) ++ [w] ++ rest = _
        simp
      rw [this]
      exact Tk.bare hw
    · refine ⟨[w], .inr ⟨w, hw, rfl⟩, ?_⟩
      have : 34 :: (shield p ++ [34, w]) ++ rest = 34 :: (shield p ++ 34 :: ([w] ++ rest)) := by simp
      rw [this]
      exact Tk.quo
  obtain ⟨lead', h1, h2⟩ := core
  rcases hl with rfl | ⟨w0, hw0, rfl⟩
  · exact ⟨lead', h1, h2⟩
  · exact ⟨lead', h1, Tk.skip hw0 h2⟩
theorem lead_stop {lead : List Nat} (hl : Lead lead) : Tk (lead ++ []) [] [] := by
  rcases hl with rfl | ⟨w0, hw0, rfl⟩
  · exact Tk.stop
  · exact Tk.skip hw0 Tk.stop
theorem paired_drop {F : List Nat → List Nat → Prop} : ∀ {as bs : List (List Nat)}, Paired F as bs → ∀ (i : Nat) (a : List Nat), as[i]? = some a → ∃ b, bs[i]? = some b ∧ F a b ∧ bs.drop i = b :: bs.drop (i + 1)
  | _, _, .nil, i, a, h => by simp at h
  | _, _, .cons x r, 0, a, h => by
    cases h
    exact ⟨_, rfl, x, rfl⟩
  | _, _, .cons x r, i + 1, a, h => by
    obtain ⟨b, h1, h2, h3⟩ := paired_drop r i a h
    exact ⟨b, h1, h2, by simpa using h3⟩
theorem paired_length {α β : Type} {F : α → β → Prop} {as : List α} {bs : List β} (h : Paired F as bs) : as.length = bs.length := by
  induction h with
  | nil => rfl
  | cons _ _ ih => simp [ih]
theorem take_flat {ps : List (List Nat)} {i : Nat} {p : List Nat} (h : ps[i]? = some p) : (ps.take (i + 1)) = ps.take i ++ [p] := by
  rw [List.take_add_one, h]; rfl
theorem words_at {ys : List Value} {ps : List (List Nat)} (h : Words ys ps) : ∀ {i : Nat} {p : List Nat}, ps[i]? = some p → ∃ t, ys[i]? = some (.str (sx p) t) := by
  induction h with
  | nil => intro i p e; simp at e
  | cons a _ ih =>
    intro i p e
    cases i with
    | zero => obtain ⟨t, rfl⟩ := a; cases e; exact ⟨t, rfl⟩
    | succ i => exact ih e
theorem words_get {ys : List Value} {ps : List (List Nat)} (h : Words ys ps) {i : Nat} {v : Value} (hv : ys[i]? = some v) : ∃ p t, ps[i]? = some p ∧ v = .str (sx p) t := by
  have hl := h.length
  have hi : i < ps.length := by
    rcases Nat.lt_or_ge i ys.length with q | q
    · omega
    · rw [List.getElem?_eq_none q] at hv; cases hv
  obtain ⟨t, e⟩ := words_at h (List.getElem?_eq_getElem hi)
  rw [hv] at e
  exact ⟨_, t, List.getElem?_eq_getElem hi, Option.some.inj e⟩
theorem flat_take_le (ps : List (List Nat)) (i : Nat) : (ps.take i).flatten.length ≤ ps.flatten.length := by
  have : ps.flatten = (ps.take i).flatten ++ (ps.drop i).flatten := by rw [← List.flatten_append, List.take_append_drop]
  rw [this, List.length_append]; omega
/-- lists of words are compared -/
theorem strs_canLay : ∀ ps : List (List Nat), (∀ p ∈ ps, ∀ c ∈ p, c < 128) → PyData.canLayAll0 ((ps.map sx).map PyData.str) = true
  | [], _ => rfl
  | p :: r, h => by
    have e1 : PyData.strOk (sx p) = true := by
      show p.toArray.all (fun c => decide (c < 0x110000)) = true
      simp only [List.all_toArray, List.all_eq_true, decide_eq_true_eq]
      intro c hc
      have := h p (.head _) c hc
      omega
    show (PyData.canLay0 (.str (sx p)) && _) = true
    have e2 : PyData.canLay0 (.str (sx p)) = true := e1
    rw [e2, Bool.true_and]
    exact strs_canLay r fun q hq => h q (.tail _ hq)
theorem strs_depth : ∀ ns : List Str, PyData.depthAll (ns.map PyData.str) = 0
  | [] => rfl
  | _ :: r => by simp [PyData.depthAll, PyData.depth, strs_depth r]
theorem shaped_strs (ps : List (List Nat)) (h : ∀ p ∈ ps, ∀ c ∈ p, c < 128) : SeqAt.shaped (.list ((ps.map sx).map PyData.str)) = true := by
  simp only [SeqAt.shaped, PyData.canLay0, PyData.depth, strs_canLay ps h, strs_depth]
  rfl
theorem same_strs : ∀ ns : List Str, PySem.Spec.sameAll (ns.map PyData.str) (ns.map PyData.str) = true
  | [] => by simp [PySem.Spec.sameAll]
  | a :: r => by simp [PySem.Spec.sameAll, PySem.Spec.same, same_strs r]
theorem ne_same_words {prog : Program} {w : World} {A : Around} {E : Value → Shared → Prop} {s : Shared} {a b : Addr} {xs ys : List Value} {ps : List (List Nat)} {Q : Value → Shared → Prop}
    (ha : s.heap.IsList a xs.toArray) (hb : s.heap.IsList b ys.toArray) (hi : Words xs ps) (hj : Words ys ps) (hc : ∀ p ∈ ps, ∀ c ∈ p, c < 128) (hu : A.units + 64 < cLine) (h : Q (.bool false) s) :
    wpAny (model prog w) A (compareOp .NotEq (.ref a) (.ref b)) Q E s :=
  ne_dataH_same (reads_newData ha (words_strs hi).carried) (reads_newData hb (words_strs hj).carried) (shaped_strs _ hc) (shaped_strs _ hc) hu (SeqAt.noMix_of_shape (.list .str) rfl _ _ (list_map_has fun _ => rfl) (list_map_has fun _ => rfl)) (by
    have : PySem.Spec.same (.list ((ps.map sx).map PyData.str)) (.list ((ps.map sx).map PyData.str)) = true := by
      simp only [PySem.Spec.same]; exact same_strs _
    rw [this]; exact h)
theorem news_two {g h : Heap} {L : Addr} {news : List (Addr × Obj)} {p1 p2 : Addr × Obj} (N : News g L h news) (h1 : p1 ∈ news) (h2 : p2 ∈ news) : News g L h [p1, p2] := by
  intro p hp
  rcases List.mem_cons.mp hp with rfl | hp
  · exact N _ h1
  · rw [List.mem_singleton.mp hp]; exact N _ h2
theorem join_shield {prog : Program} {w : World} {A : Around} {E : Value → Shared → Prop} {s : Shared} {h₀ : Heap} {L : Addr} {news : List (Addr × Obj)} {Q : Value → Shared → Prop} {D : Addr} {ys : Array Value} {k : Nat} {p : List Nat} {t : Tok} (N : News h₀ L s.heap news) (hm : (D, listOf ys k) ∈ news) (hW : Words ys.toList (p.map fun c => [92, c])) (h1 : p.length ≤ 100)
    (h : ∀ t' k, Q (.str (sx (shield p)) t') { s with toks := k }) : wpAny (model prog w) A (call (.builtin "str.join") [.str "" t, .ref D]) Q E s :=
  join_words N hm hW (by rw [shield_flat, shield_len]; omega) (by rw [List.length_map]; omega) h
theorem ext_hide {l : List Addr} {g h : Heap} (K : Ext g h) (hn : ∀ a ∈ l, g.get? a = none) : Ext g (hideAll h l) :=
  fun b o e => hideAll_get l (K b o e) fun hb => by rw [hn b hb] at e; cases e
theorem news_rot {g h : Heap} {L : Addr} {q : Addr × Obj} {A R : List (Addr × Obj)} (N : News g L h (q :: (A ++ R))) : News g L h (A ++ q :: R) := by
  intro p hp
  rcases List.mem_append.mp hp with hp | hp
  · exact N p (.tail _ (List.mem_append_left _ hp))
  · rcases List.mem_cons.mp hp with rfl | hp
    · exact N _ (.head _)
    · exact N p (.tail _ (List.mem_append_right _ hp))
theorem sub_rot {q : Addr × Obj} {A R : List (Addr × Obj)} : ∀ p ∈ A ++ R, p ∈ A ++ q :: R := by
  intro p hp
  rcases List.mem_append.mp hp with hp | hp
  · exact List.mem_append_left _ hp
  · exact List.mem_append_right _ (.tail _ hp)
theorem ne_addr {I : Addr} {A A' R : List (Addr × Obj)} (ha : A'.map (·.1) = A.map (·.1)) (hne : ∀ p ∈ A ++ R, p.1 ≠ I) : ∀ p ∈ A' ++ R, p.1 ≠ I := by
  intro p hp
  rcases List.mem_append.mp hp with hp | hp
  · have : p.1 ∈ A.map (·.1) := ha ▸ List.mem_map_of_mem hp
    obtain ⟨q, hq, e⟩ := List.mem_map.mp this
    rw [← e]
    exact hne q (List.mem_append_left _ hq)
  · exact hne p (List.mem_append_right _ hp)
theorem objs_ce {w : World} {a : LexA} (ok : a.Ok w) {ln : Int} {tl : Tok} {left : List Value} {nl np : Nat} {pb : Array Value} : ∀ p ∈ a.objs w ln tl left nl pb np, @LE.le Nat _ a.ce p.1 := by
  have o1 := ok.o1; have o2 := ok.o2; have o3 := ok.o3; have o4 := ok.o4; have o5 := ok.o5; have o6 := ok.o6; have o7 := ok.o7; have o8 := ok.o8
  intro p hp
  simp only [LexA.objs, List.mem_cons, List.not_mem_nil, or_false] at hp
  rcases hp with rfl | rfl | rfl | rfl | rfl | rfl | rfl | rfl | rfl <;> dsimp only <;> omega
/-- the lexer, in the frame of the law -/
theorem lexer_in {w : World} {a : LexA} {g h h' : Heap} {L D : Addr} {m : Str → Option Value} {oD o121 o2 : Obj} {ln : Int} {tl : Tok} {left : List Value} {nl np : Nat} {pb : Array Value} (ok : a.Ok w) (F : Fr g L h m) (N : News g L h [(D, oD), (121, o121)]) (hD : (121 : Addr) ≠ D) (l0 : @LT.lt Nat _ 121 L)
    (K : Ext (hideAll h [121]) h') (hce : @LE.le Nat _ h.objs.size a.ce) (e : ∀ p ∈ a.objs w ln tl left nl pb np, h'.get? p.1 = some p.2) (e2 : h'.get? 121 = some o2) :
    Fr g L h' m ∧ News g L h' (a.objs w ln tl left nl pb np ++ [(D, oD), (121, o2)]) ∧ @LT.lt Nat _ D a.ce ∧ @LT.lt Nat _ 121 a.ce := by
  have B : But [121] h h' := fun b o hb he => K b o (hideAll_get _ he hb)
  have n121 := N (121, o121) (.tail _ (.head _))
  have nD := N (D, oD) (.head _)
  have l1 := Heap.lt_size n121.1
  have l2 := Heap.lt_size nD.1
  have l3 := F.ns.lt
  refine ⟨⟨F.ns.at' fun o he => B _ o (fun q => ?_) he, fun b o he => B b o (fun q => ?_) (F.keep b o he), F.above⟩, fun p hp => ?_, ?_, ?_⟩
  · exact n121.2.1 (List.mem_singleton.mp q).symm
  · rw [List.mem_singleton.mp q, n121.2.2] at he; cases he
  · rcases List.mem_append.mp hp with hp | hp
    · have hge := objs_ce ok p hp
      refine ⟨e p hp, ?_, ?_⟩
      · intro q; rw [q] at hge; exact absurd (Nat.lt_of_lt_of_le l3 (Nat.le_trans hce hge)) (Nat.lt_irrefl _)
      · cases q : g.get? p.1 with
        | none => rfl
        | some z => exact absurd (Nat.lt_of_lt_of_le (Heap.lt_size (F.keep _ _ q)) (Nat.le_trans hce hge)) (Nat.lt_irrefl _)
    · rcases List.mem_cons.mp hp with rfl | hp
      · exact ⟨B _ _ (fun q => hD (List.mem_singleton.mp q).symm) nD.1, nD.2⟩
      · rw [List.mem_singleton.mp hp]
        exact ⟨e2, n121.2⟩
  · exact Nat.lt_of_lt_of_le l2 hce
  · exact Nat.lt_of_lt_of_le l1 hce
theorem count_ws (lead seg rest : List Nat) : (lead ++ (seg ++ rest)).count 10 = lead.count 10 + (seg.count 10 + rest.count 10) := by
  rw [List.count_append, List.count_append]
theorem objs_none {g h : Heap} {L : Addr} {A R : List (Addr × Obj)} (N : News g L h (A ++ R)) : ∀ x ∈ A.map (·.1), g.get? x = none := by
  intro x hx
  obtain ⟨p, hp, rfl⟩ := List.mem_map.mp hx
  exact (N p (List.mem_append_left _ hp)).2.2
theorem objs_get {g h : Heap} {L : Addr} {A R : List (Addr × Obj)} (N : News g L h (A ++ R)) : ∀ p ∈ A, h.get? p.1 = some p.2 := fun p hp => (N p (List.mem_append_left _ hp)).1
theorem rest_ok {w : World} {a : LexA} (ok : a.Ok w) {ln : Int} {tl : Tok} {left : List Value} {nl np : Nat} {pb : Array Value} {I : Addr} {o : Obj} {R R' : List (Addr × Obj)} {l : List Addr} (hl : ∀ x ∈ l, x ∈ (a.objs w ln tl left nl pb np).map (·.1)) (hR : ∀ p ∈ R, @LT.lt Nat _ p.1 a.ce)
    (hne : ∀ p ∈ a.objs w ln tl left nl pb np ++ R', p.1 ≠ I) : ∀ p ∈ (I, o) :: R, p.1 ∉ l := by
  intro p hp hx
  obtain ⟨q, hq, e⟩ := List.mem_map.mp (hl _ hx)
  rcases List.mem_cons.mp hp with rfl | hp
  · exact hne q (List.mem_append_left _ hq) e
  · have h1 := hR p hp
    have h2 := objs_ce ok q hq
    rw [e] at h2
    exact absurd (Nat.lt_of_lt_of_le h1 h2) (Nat.lt_irrefl _)
theorem two_lt {x y c : Addr} {ox oy : Obj} (h1 : @LT.lt Nat _ x c) (h2 : @LT.lt Nat _ y c) : ∀ p ∈ [(x, ox), (y, oy)], @LT.lt Nat _ p.1 c := by
  intro p hp
  rcases List.mem_cons.mp hp with rfl | hp
  · exact h1
  · rw [List.mem_singleton.mp hp]; exact h2
theorem in_dXLD {w : World} {a : LexA} {ln : Int} {tl : Tok} {left : List Value} {nl np : Nat} {pb : Array Value} : ∀ x ∈ [a.dX, a.LD], x ∈ (a.objs w ln tl left nl pb np).map (·.1) := by
  intro x hx
  simp only [List.mem_cons, List.not_mem_nil, or_false] at hx
  rcases hx with rfl | rfl <;> simp [LexA.objs]
theorem in_P {w : World} {a : LexA} {ln : Int} {tl : Tok} {left : List Value} {nl np : Nat} {pb : Array Value} : ∀ x ∈ [a.P], x ∈ (a.objs w ln tl left nl pb np).map (·.1) := by
  intro x hx
  rw [List.mem_singleton.mp hx]
  simp [LexA.objs]
theorem lead_len {l : List Nat} (h : Lead l) : l.length ≤ 1 := by
  rcases h with rfl | ⟨w, _, rfl⟩ <;> simp
theorem flat_drop_le (ps : List (List Nat)) (i : Nat) : (ps.drop i).flatten.length ≤ ps.flatten.length := by
  have : ps.flatten = (ps.take i).flatten ++ (ps.drop i).flatten := by rw [← List.flatten_append, List.take_append_drop]
  rw [this, List.length_append]; omega

end
section
theorem upd_app {D : Addr} {o o' : Obj} {R R' : List (Addr × Obj)} (U : Upd D o o' R R') : ∀ {A : List (Addr × Obj)}, (∀ p ∈ A, p.1 ≠ D) → Upd D o o' (A ++ R) (A ++ R')
  | [], _ => U
  | q :: A, h => .tail (fun e => h q (.head _) e) (upd_app U fun p hp => h p (.tail _ hp))
theorem objs_P {w : World} {a : LexA} (ok : a.Ok w) {ln : Int} {tl : Tok} {left : List Value} {nl np : Nat} {pb : Array Value} : ∀ p ∈ a.objs w ln tl left nl pb np, @LE.le Nat _ p.1 a.P := by
  have o1 := ok.o1; have o2 := ok.o2; have o3 := ok.o3; have o4 := ok.o4; have o5 := ok.o5; have o6 := ok.o6; have o7 := ok.o7; have o8 := ok.o8
  intro p hp
  simp only [LexA.objs, List.mem_cons, List.not_mem_nil, or_false] at hp
  rcases hp with rfl | rfl | rfl | rfl | rfl | rfl | rfl | rfl | rfl <;> dsimp only <;> omega
noncomputable abbrev tupObj (a b : Value) (ep : Nat) : Obj := { cls := .type "tuple", data := .seq #[a, b] ep }
theorem grab {g h : Heap} {L TU : Addr} {v1 v2 : Value} {ep : Nat} {rest : List (Addr × Obj)} (N : News g L h ((TU, tupObj v1 v2 ep) :: rest)) :
    ∃ TU' w1 w2 e, TU' = TU ∧ w1 = v1 ∧ w2 = v2 ∧ e = ep ∧ News g L h ((TU', tupObj w1 w2 e) :: rest) := ⟨_, _, _, _, rfl, rfl, rfl, rfl, N⟩
theorem shiftsI_len (x : List Nat) : (shiftsI x).length ≤ x.length - 1 := by
  unfold shiftsI
  refine Nat.le_trans (List.length_filter_le _ _) ?_
  rw [List.length_map, List.length_range]
  exact Nat.le_refl _
/-- what is pushed -/
noncomputable def pushed (x : List Nat) (hi lo : Nat) (n : Nat) : List (List Nat) := (List.range n).flatMap fun j => [x.take ((1 : Int) + (j : Nat)).toNat, twinF 13 (shiftsI (x.take ((1 : Int) + (j : Nat)).toNat)) ((1 : Int) + (j : Nat)) hi lo]
theorem pushed_succ (x : List Nat) (hi lo n : Nat) : pushed x hi lo (n + 1) = pushed x hi lo n ++ [x.take ((1 : Int) + (n : Nat)).toNat] ++ [twinF 13 (shiftsI (x.take ((1 : Int) + (n : Nat)).toNat)) ((1 : Int) + (n : Nat)) hi lo] := by
  unfold pushed
  rw [List.range_succ, List.flatMap_append]
  simp
theorem pushed_len (x : List Nat) (hi lo : Nat) : ∀ n, (pushed x hi lo n).length = 2 * n
  | 0 => rfl
  | n + 1 => by
    rw [pushed_succ, List.length_append, List.length_append, pushed_len x hi lo n]
    simp only [List.length_cons, List.length_nil]
    omega
theorem take_two (vs : List Value) (w1 w2 v : Value) (j : Nat) (h : (#[w1, w2] : Array Value)[j]? = some v) : vs ++ [w1, w2].take (j + 1) = (vs ++ [w1, w2].take j) ++ [v] := by
  have hj : j = 0 ∨ j = 1 := by
    have := (Array.getElem?_eq_some_iff.mp h).1
    simp at this
    omega
  rcases hj with rfl | rfl
  · cases h; simp
  · cases h
    simp
theorem objs_notin {w : World} {a : LexA} (ok : a.Ok w) {ln : Int} {tl : Tok} {left : List Value} {nl np : Nat} {pb : Array Value} {D : Addr} (h : @LT.lt Nat _ a.P D) : ∀ p ∈ a.objs w ln tl left nl pb np, p.1 ≠ D := by
  intro p hp e
  have := objs_P ok p hp
  rw [e] at this
  exact absurd (Nat.lt_of_lt_of_le h this) (Nat.lt_irrefl _)
theorem news_two2 {g h : Heap} {L : Addr} {A R : List (Addr × Obj)} {q r : Addr × Obj} (N : News g L h (q :: (A ++ R))) (hr : r ∈ R) : News g L h (A ++ [q, r]) := by
  intro p hp
  rcases List.mem_append.mp hp with hp | hp
  · exact N p (.tail _ (List.mem_append_left _ hp))
  · rcases List.mem_cons.mp hp with rfl | hp
    · exact N _ (.head _)
    · rw [List.mem_singleton.mp hp]; exact N r (.tail _ (List.mem_append_right _ hr))
theorem grabL {g h : Heap} {L l : Addr} {o : Obj} {rest : List (Addr × Obj)} (N : News g L h ((l, o) :: rest)) : ∃ l', l' = l ∧ News g L h ((l', o) :: rest) := ⟨_, rfl, N⟩

end
section
section
open Builtin Builtin.Str StrLaws
theorem nl_len : ("\n" : Str).length = 1 := by decide +kernel
theorem nl_cps : ("\n" : Str).cps = #[10] := by decide +kernel
theorem sub_nl (x : List Nat) (i : Nat) : subAt (sx x) "\n" i = ((x.drop i).take 1 == [10]) := by
  rw [subAt_eq, nl_len, nl_cps, sx_cps]
theorem count_go (x : List Nat) : ∀ (n k : Nat) (st : Array Nat × Nat), k + n = x.length + 1 → st.1.size ≤ k → st.2 ≤ k →
    ((forIn (List.range' k n) st (occBody (sx x) "\n" x.length (x.length + 1)) : Id _).run).1.size = st.1.size + (x.drop k).count 10
  | 0, k, st, h, _, _ => by
    rw [List.drop_of_length_le (by omega)]; simp
  | n + 1, k, st, h, h1, h2 => by
    rw [List.range'_succ]
    by_cases hk : k < x.length
    · have hd : x.drop k = x[k] :: x.drop (k + 1) := List.drop_eq_getElem_cons hk
      by_cases hc : x[k] = 10
      · have hs : subAt (sx x) "\n" k = true := by rw [sub_nl, hd, hc]; rfl
        rw [occ_one (sx x) "\n" x.length (x.length + 1) k st _ ⟨⟨⟨by omega, h2⟩, by rw [nl_len]; omega⟩, hs⟩]
        rw [count_go x n (k + 1) _ (by omega) (by simp; omega) (by simp only [nl_len]; omega), hd, hc, List.count_cons_self]
        simp only [Array.size_push]
        omega
      · have hs : ¬ (((st.1.size < x.length + 1 ∧ st.2 ≤ k) ∧ k + ("\n" : Str).length ≤ x.length) ∧ subAt (sx x) "\n" k = true) := by
          rintro ⟨_, hs⟩
          rw [sub_nl] at hs
          have hs := eq_of_beq hs
          rw [hd] at hs
          exact hc (List.cons.inj hs).1
        rw [List.forIn_cons]
        unfold occBody
        rw [if_neg hs]
        have := count_go x n (k + 1) st (by omega) (by omega) (by omega)
        unfold occBody at this
        rw [hd, List.count_cons_of_ne (by simpa using hc)]
        exact this
    · have hs : ¬ (((st.1.size < x.length + 1 ∧ st.2 ≤ k) ∧ k + ("\n" : Str).length ≤ x.length) ∧ subAt (sx x) "\n" k = true) := by
        rintro ⟨⟨_, hs⟩, _⟩
        rw [nl_len] at hs
        omega
      rw [List.forIn_cons]
      unfold occBody
      rw [if_neg hs]
      have := count_go x n (k + 1) st (by omega) (by omega) (by omega)
      unfold occBody at this
      rw [List.drop_of_length_le (show x.length ≤ k by omega)]
      rw [List.drop_of_length_le (show x.length ≤ k + 1 by omega)] at this
      exact this
theorem count_nl (x : List Nat) : (Txt.count (sx x) "\n" : Int) = (x.count 10 : Nat) := by
  show ((occurrences (sx x) "\n" 0 (sx x).length ((sx x).length + 1)).length : Int) = _
  rw [sx_len, occ_eq]
  congr 1
  have := count_go x (x.length + 1) 0 (#[], 0) (by omega) (by simp) (by simp)
  rw [List.drop_zero] at this
  simpa using this
end
theorem twinF_mem : ∀ (n : Nat) (S : List Int) (size : Int) (hi lo : Nat), ∀ c ∈ twinF n S size hi lo, c = hi ∨ c = lo
  | 0, _, _, _, _, c, h => by simp [twinF] at h
  | n + 1, [], size, hi, lo, c, h => by
    simp only [twinF, List.mem_append, List.mem_singleton] at h
    rcases h with rfl | h
    · exact .inl rfl
    · obtain ⟨l, hl, hc⟩ := List.mem_flatten.mp h
      rw [List.eq_of_mem_replicate hl] at hc
      exact .inr (List.mem_singleton.mp hc)
  | n + 1, step :: S', size, hi, lo, c, h => by
    have rep : ∀ k, c ∈ (List.replicate k [lo]).flatten → c = hi ∨ c = lo := by
      intro k hk
      obtain ⟨l, hl, hc⟩ := List.mem_flatten.mp hk
      rw [List.eq_of_mem_replicate hl] at hc
      exact .inr (List.mem_singleton.mp hc)
    unfold twinF at h
    split at h
    · dsimp only at h
      rcases List.mem_append.mp h with h | h
      · obtain ⟨l, hl, hc⟩ := List.mem_flatten.mp h
        rw [List.eq_of_mem_replicate hl] at hc
        exact twinF_mem n _ _ hi lo c (List.mem_of_mem_take hc)
      · exact twinF_mem n _ _ hi lo c (List.mem_of_mem_take h)
    · dsimp only at h
      split at h
      · rcases List.mem_append.mp h with h | h
        · split at h
          · simp only [List.mem_append, List.mem_singleton] at h
            rcases h with (h | h) | h
            · exact twinF_mem n _ _ hi lo c h
            · exact rep _ h
            · exact .inl h
          · rcases List.mem_append.mp h with h | h
            · exact twinF_mem n _ _ hi lo c h
            · exact rep _ h
        · exact twinF_mem n _ _ hi lo c h
      · simp at h
theorem pushed_get (x : List Nat) (hi lo : Nat) : ∀ n i, i < n → (pushed x hi lo n)[2 * i]? = some (x.take ((1 : Int) + (i : Nat)).toNat) ∧
    (pushed x hi lo n)[2 * i + 1]? = some (twinF 13 (shiftsI (x.take ((1 : Int) + (i : Nat)).toNat)) ((1 : Int) + (i : Nat)) hi lo)
  | 0, i, h => by omega
  | n + 1, i, h => by
    have e : pushed x hi lo (n + 1) = pushed x hi lo n ++ [x.take ((1 : Int) + (n : Nat)).toNat, twinF 13 (shiftsI (x.take ((1 : Int) + (n : Nat)).toNat)) ((1 : Int) + (n : Nat)) hi lo] := by
      rw [pushed_succ, List.append_assoc]; rfl
    have hl := pushed_len x hi lo n
    rw [e]
    by_cases hi' : i < n
    · obtain ⟨a, b⟩ := pushed_get x hi lo n i hi'
      rw [List.getElem?_append_left (by omega), List.getElem?_append_left (by omega)]
      exact ⟨a, b⟩
    · obtain rfl : i = n := by omega
      constructor
      · rw [List.getElem?_append_right (by omega), hl, Nat.sub_self]; rfl
      · rw [List.getElem?_append_right (by omega), hl, show 2 * i + 1 - 2 * i = 1 by omega]; rfl
theorem drop_two {vs : List Value} {k : Nat} {v1 v2 : Value} (h1 : vs[k]? = some v1) (h2 : vs[k + 1]? = some v2) : vs.drop k = v1 :: v2 :: vs.drop (k + 2) := by
  obtain ⟨a, e1⟩ := List.getElem?_eq_some_iff.mp h1
  obtain ⟨b, e2⟩ := List.getElem?_eq_some_iff.mp h2
  rw [List.drop_eq_getElem_cons a, e1, List.drop_eq_getElem_cons b, e2]
theorem pick_two {vs : List Value} {k : Nat} {v1 v2 : Value} (h1 : vs[k]? = some v1) (h2 : vs[k + 1]? = some v2) {x y : Int} (hx : x = (k : Int)) (hy : y = (k : Int) + 2) :
    slicePick vs.toArray (some x) (some y) none = #[v1, v2] := by
  subst hx; subst hy
  have hk : k + 2 ≤ vs.length := by
    obtain ⟨b, e2⟩ := List.getElem?_eq_some_iff.mp h2
    omega
  have e : sliceBounds (some (k : Int)) (some ((k : Int) + 2)) none vs.toArray.size = (((k : Nat) : Int), ((k + 2 : Nat) : Int), 1) := by
    simp only [sliceBounds, Option.getD_none, show (1 : Int) > 0 by decide, if_true, if_neg (show ¬ ((k : Int) < 0) by omega), if_neg (show ¬ ((k : Int) + 2 < 0) by omega), List.size_toArray]
    congr 1
    · omega
    · congr 1
      omega
  rw [kmk_pick_nat _ e]
  show ((vs.drop k).take (k + 2 - k)).toArray = _
  rw [drop_two h1 h2, show k + 2 - k = 2 by omega]
  rfl
/-- the block 2 ** q -/
noncomputable abbrev PwF (v y : Value) : Prop := ∃ k t t', v = Value.int k t ∧ y = Value.int ((2 : Int) ^ k.toNat) t'
theorem compq_pow {prog : Program} {w : World} {A : Around} {env : Env} {scope : Scope} {p1 p2 p3 : Pos} {u : Nat} {s : Shared}
    (hk : (relabel scope env).kind = .function) (hp : (relabel scope env).names.lookup ("q" : Str) = some NameKind.local) :
    CompQ prog w A env scope [] "q" [] (.BinOp (.Constant (.int 2) u p1) .Pow (.Name "q" p2) p3) (fun v => ∃ k t, v = .int k t ∧ 0 ≤ k ∧ k ≤ 1000) (fun _ => true) PwF s := by
  constructor
  · rintro C v s₃ m₃ E' Qb hC _ hns hm hK hQ
    exact wpAny_pure (hQ _ _ Ext.rfl')
  · rintro C v s₃ m₃ E' Qv hC ⟨k, t, rfl, h0, h1⟩ _ hns hm hK hQ
    refine wpAny_BinOp (wpAny_Constant_int (ldVarK (s := { s₃ with toks := s₃.toks + 1 }) hns hm ?_ hk hp))
    refine pow_int_small h0 (by omega) (by decide) ?_
    exact hQ _ _ _ ⟨k, t, _, rfl, rfl⟩ Ext.rfl'
theorem pow_ints {vs ys : List Value} {S : List Int} (h : IntsAre vs S) (hP : Paired PwF (vs.filter fun _ => true) ys) : IntsAre ys (S.map fun q => (2 : Int) ^ q.toNat) := by
  have e : ∀ l : List Value, l.filter (fun _ => true) = l := fun l => List.filter_eq_self.mpr fun _ _ => rfl
  rw [e] at hP
  clear e
  induction h generalizing ys with
  | nil => cases hP; exact .nil
  | cons n t _ ih =>
    cases hP with
    | cons a r =>
      obtain ⟨k, t1, t2, e1, e2⟩ := a
      cases e1
      rw [e2]
      exact .cons _ _ (ih r)
/-- the block _law_told(one) -/
noncomputable abbrev ToldF (D : Int) (v y : Value) : Prop := ∃ t', y = Value.int D t'
theorem compq_told {w : World} {dp un : Nat} {fr : Option (List Env)} {gd : Option (List Code)} {g : Heap} {env : Env} {scope : Scope} {p1 p2 p3 : Pos} {s : Shared} {D : Int}
    (hk : (relabel scope env).kind = .function) (hp : (relabel scope env).names.lookup ("one" : Str) = some NameKind.local) (hgl : (relabel scope env).names.lookup ("_law_told" : Str) = some NameKind.globalImplicit)
    (hg : (relabel scope env).kind = .function → True) (G : Gd w g) (K : Ext g s.heap) (hdp : dp + 20 < 1000) (hun : un + 300 < 9900)
    (hn : nsIn (hd.heap_39 w.params) mainGlobals "_law_told" = some (some (.ref 150)))
    (hE1 : ∀ C, (compEnvC scope [] C env).globals = mainGlobals) (hE2 : ∀ C, (compEnvC scope [] C env).scope.kind = .function) (hE3 : ∀ C, (compEnvC scope [] C env).kindOf ("_law_told" : Str) = some .globalImplicit)
    {o : Obj} {fd : FuncData} (ho : g.get? 150 = some o) (hf : o.data = .func fd) :
    CompQ PySem.Challenge.rw_sw0018_01.row.prog w (Ar dp un fr gd) env scope [] "one" [] (.Call (.Name "_law_told" p1) [.Name "one" p2] [] p3) (fun v => ∃ x t, v = .str (sx x) t ∧ x.length ≤ 12 ∧ 46 ∉ x ∧ toldN x (x.length + 1) = D) (fun _ => true) (ToldF D) s := by
  constructor
  · rintro C v s₃ m₃ E' Qb hC _ hns hm hK hQ
    exact wpAny_pure (hQ _ _ Ext.rfl')
  · rintro C v s₃ m₃ E' Qv hC ⟨x, t, rfl, hx, h46, hD⟩ _ hns hm hK hQ
    have K3 : Ext g s₃.heap := K.trans hK
    refine Call_ (nameKE (G.keeps K3) hn ?_ (hE1 C) (hE2 C) (hE3 C))
    refine Calls.callWith_function (o := o) (fd := fd) (Calls.evalArgs_plain (Calls.spliced_cons (ldVarK hns hm (Calls.spliced_nil ⟨⟨K3 _ _ ho, hf⟩, ?_⟩) hk hp)))
    refine wpAny_mono (c_told w x t hx h46 dp un fr gd s₃ (fun v s' => Qv v s') E' (G.keeps K3) (by omega) (by omega) fun h' t' tk' K' => ?_) (fun _ _ h => h) fun _ _ h => h
    rw [hD]
    exact hQ _ _ _ ⟨t', rfl⟩ K'
theorem told_ints {D : Int} {vs ys : List Value} (hP : Paired (ToldF D) (vs.filter fun _ => true) ys) : IntsAre ys (vs.map fun _ => D) := by
  have e : ∀ l : List Value, l.filter (fun _ => true) = l := fun l => List.filter_eq_self.mpr fun _ _ => rfl
  rw [e] at hP
  clear e
  induction hP with
  | nil => exact .nil
  | cons a _ ih =>
    obtain ⟨t', e⟩ := a
    rw [e]
    exact .cons _ _ ih
theorem news_five {g h : Heap} {L : Addr} {A : List (Addr × Obj)} {t d i l e : Addr × Obj} (N : News g L h (t :: d :: (A ++ [i, l, e]))) : News g L h (A ++ [l, t, i, e]) := by
  intro p hp
  rcases List.mem_append.mp hp with hp | hp
  · exact N p (.tail _ (.tail _ (List.mem_append_left _ hp)))
  · simp only [List.mem_cons, List.not_mem_nil, or_false] at hp
    rcases hp with rfl | rfl | rfl | rfl
    · exact N _ (.tail _ (.tail _ (List.mem_append_right _ (.tail _ (.head _)))))
    · exact N _ (.head _)
    · exact N _ (.tail _ (.tail _ (List.mem_append_right _ (.head _))))
    · exact N _ (.tail _ (.tail _ (List.mem_append_right _ (.tail _ (.tail _ (.head _))))))
theorem ne_map {I : Addr} {X X' : List (Addr × Obj)} (ha : X'.map (·.1) = X.map (·.1)) (hne : ∀ p ∈ X, p.1 ≠ I) : ∀ p ∈ X', p.1 ≠ I := by
  intro p hp
  have : p.1 ∈ X.map (·.1) := ha ▸ List.mem_map_of_mem hp
  obtain ⟨q, hq, e⟩ := List.mem_map.mp this
  rw [← e]
  exact hne q hq
theorem sub_two {A : List (Addr × Obj)} {l t i e : Addr × Obj} : ∀ p ∈ A ++ [l, e], p ∈ A ++ [l, t, i, e] := by
  intro p hp
  rcases List.mem_append.mp hp with hp | hp
  · exact List.mem_append_left _ hp
  · refine List.mem_append_right _ ?_
    simp only [List.mem_cons, List.not_mem_nil, or_false] at hp ⊢
    rcases hp with rfl | rfl <;> simp
theorem not_P {P x1 x2 x3 x4 x5 : Addr} {o1 o2 o3 o4 o5 : Obj} (h1 : x1 ≠ P) (h2 : x2 ≠ P) (h3 : x3 ≠ P) (h4 : x4 ≠ P) (h5 : x5 ≠ P) : ∀ p ∈ [(x1, o1), (x2, o2), (x3, o3), (x4, o4), (x5, o5)], p.1 ∉ [P] := by
  intro p hp hx
  have hx := List.mem_singleton.mp hx
  simp only [List.mem_cons, List.not_mem_nil, or_false] at hp
  rcases hp with rfl | rfl | rfl | rfl | rfl <;> contradiction
theorem not_P3 {P x1 x2 x3 : Addr} {o1 o2 o3 : Obj} (h1 : x1 ≠ P) (h2 : x2 ≠ P) (h3 : x3 ≠ P) : ∀ p ∈ [(x1, o1), (x2, o2), (x3, o3)], p.1 ∉ [P] := by
  intro p hp hx
  have hx := List.mem_singleton.mp hx
  simp only [List.mem_cons, List.not_mem_nil, or_false] at hp
  rcases hp with rfl | rfl | rfl <;> contradiction
theorem cLine_eq : cLine = 9900 := rfl
theorem two_not {x y p q : Addr} {ox oy : Obj} (h1 : x ≠ p) (h2 : x ≠ q) (h3 : y ≠ p) (h4 : y ≠ q) : ∀ z ∈ [(x, ox), (y, oy)], z.1 ∉ [p, q] := by
  intro z hz hx
  simp only [List.mem_cons, List.not_mem_nil, or_false] at hz hx
  rcases hz with rfl | rfl <;> rcases hx with hx | hx <;> contradiction

end
section
local macro_rules | `(tactic| walk_at "call ref") => `(tactic| (k_here; (with_reducible show wpAny _ _ (call (Value.ref 133) _) _ _ _); refine Mine.Stop.out ?_))
local macro_rules | `(tactic| walk_at "call ref") => `(tactic| (k_here; (with_reducible show wpAny _ _ (call (Value.ref 126) _) _ _ _); refine Mine.Stop.out ?_))
local macro_rules | `(tactic| walk_at "call ref") => `(tactic| (k_here; (with_reducible show wpAny _ _ (call (Value.ref 150) _) _ _ _); refine Mine.Stop.out ?_))
local macro_rules | `(tactic| walk_at "subscriptTail Constant str Slice str ref") => `(tactic| (k_here; (with_reducible show wpAny _ _ (subscriptTail _ _ (Value.str _ _) (Value.ref _)) _ _ _); refine Mine.Stop.out ?_))
local macro_rules | `(tactic| walk_at "pyIter str") => `(tactic| (k_here; refine Mine.Stop.out ?_))
local macro_rules | `(tactic| walk_at "subscriptTail List cons Slice ref ref") => `(tactic| (k_here; (with_reducible show wpAny _ _ (subscriptTail _ (Expr.Slice (some _) none none _) (Value.ref _) (Value.ref _)) _ _ _); k_dflt (refine' kmk_slice_ints (ns := [5, 8, 4]) ?F ?N ?l ?p ?q ?i ?m ?c ?_ ?s ?t ?z; (case F => k_asm); (case N => k_asm); (case l => exact News.isList (by k_asm) (by k_mem)); (case p => exact IsPart.int _ _); (case q => exact IsPart.none); (case i => exact .cons _ _ (.cons _ _ (.cons _ _ .nil))); (case m => exact kmk_from (.cons _ _ (.cons _ _ (.cons _ _ .nil))) (Int.natCast_nonneg _)); (case c => exact rfl); (case s => with_unfolding_all rfl); (case t => intro _; with_unfolding_all rfl); (case z => exact Nat.le_of_ble_eq_true rfl)); intro D' ws' h' F' N' l1 hI' hC' hL'; (try k_lt l1); (try k_sweep)))
local macro_rules | `(tactic| walk_at "subscriptTail List") => `(tactic| (k_here; refine Mine.Stop.out ?_))
local macro_rules | `(tactic| walk_at "call builtin:len") => `(tactic| (k_here; (with_reducible show wpAny _ _ (call (Value.builtin "len") [Value.ref _]) _ _ _); k_dflt (refine' Mine.len_made ?N ?m ?z ?_; (case N => k_asm); (case m => k_mem); (case z => omega); k_whole; intro t' tk')))
local macro_rules | `(tactic| walk_at "eval Constant str") => `(tactic| (k_here; (with_reducible show wpAny _ _ (eval (Expr.Constant (Const.str (PySem.Str.ofString "\"")) _ _) _) _ _ _); refine Mine.const_sx (l := [34]) (by decide +kernel) ?_))
local macro_rules | `(tactic| walk_at "eval Constant str") => `(tactic| (k_here; (with_reducible show wpAny _ _ (eval (Expr.Constant (Const.str (PySem.Str.ofString "\n\t\r ")) _ _) _) _ _ _); refine Mine.const_sx (l := [10, 9, 13, 32]) (by decide +kernel) ?_))
local macro_rules | `(tactic| walk_at "subscriptTail") => `(tactic| (k_here; (with_reducible show wpAny _ _ (subscriptTail _ _ (Value.str (Mine.sx _) _) (Value.int _ _)) _ _ _); (refine' Mine.sign_at ?a ?b ?c ?_ ?hs ?ht; (case b => assumption); (case a => first | omega | decide); (case c => first | omega | decide | (simp; done)); (case hs => with_unfolding_all rfl); (case ht => intro _; with_unfolding_all rfl)); intro t' tk'))
local macro_rules | `(tactic| walk_at "subscriptTail Name Name ref int") => `(tactic| (k_here; (with_reducible show wpAny _ _ (subscriptTail _ _ (Value.ref _) (Value.int _ _)) _ _ _); k_dflt (refine' Mine.item_made ?N ?m ?a ?b ?c ?_ ?d; (case N => k_asm); (case m => k_mem); (case a => omega); (case b => omega); (case c => assumption); (case d => with_unfolding_all rfl); k_whole)))
local macro_rules | `(tactic| walk_at "call builtin:str.join") => `(tactic| (k_here; (refine' Mine.join_words ?N ?m ?W ?a ?b ?_; (case N => k_asm); (case m => k_mem); (case W => assumption); (case a => first | omega | assumption); (case b => first | omega | (simp only [List.length_map]; omega))); intro t' tk'))
local macro_rules | `(tactic| walk_at "call ref") => `(tactic| (k_here; (with_reducible show wpAny _ _ (call (Value.ref 105) _) _ _ _); refine Mine.Stop.out ?_))
local macro_rules | `(tactic| walk_at "call ref") => `(tactic| (k_here; (with_reducible show wpAny _ _ (call (Value.ref 112) _) _ _ _); refine Mine.Stop.out ?_))
local macro_rules | `(tactic| walk_at "call builtin:str.join") => `(tactic| (k_here; (refine' Mine.join_shield ?N ?m ?W ?a ?_; (case N => k_asm); (case m => k_mem); (case W => assumption); (case a => omega)); intro t' tk'))
local macro_rules | `(tactic| walk_at "call ref") => `(tactic| (k_here; (with_reducible show wpAny _ _ (call (Value.ref 143) _) _ _ _); refine Mine.Stop.out ?_))
local macro_rules | `(tactic| walk_at "call ref") => `(tactic| (k_here; (with_reducible show wpAny _ _ (call (Value.ref 138) _) _ _ _); refine Mine.Stop.out ?_))
local macro_rules | `(tactic| walk_at "subscriptTail Name Slice ref ref") => `(tactic| (k_here; (with_reducible show wpAny _ _ (subscriptTail _ (Expr.Slice (some _) (some _) none _) (Value.ref _) (Value.ref _)) _ _ _); refine Mine.Stop.out ?_))
local macro_rules | `(tactic| walk_at "compareOp NotEq ref ref") => `(tactic| (k_here; refine Mine.Stop.out ?_))
local macro_rules | `(tactic| walk_at "subscriptTail Name Constant ref int") => `(tactic| (k_here; (with_reducible show wpAny _ _ (subscriptTail _ _ (Value.ref _) (Value.int _ _)) _ _ _); k_dflt (refine' Mine.item_made ?N ?m ?a ?b ?c ?_ ?d; (case N => k_asm); (case m => k_mem); (case a => decide); (case b => decide); (case c => rfl); (case d => with_unfolding_all rfl); k_whole)))
local macro_rules | `(tactic| walk_at "call builtin:list.append") => `(tactic| (k_here; (with_reducible show wpAny _ _ (call (Value.builtin _) [Value.ref _, _]) _ _ _); (refine' Mine.append_P ?F ?N ?U ?z ?_; (case F => k_asm); (case N => k_asm); (case U => assumption); (case z => first | omega | (simp only [List.size_toArray]; omega))); intro h' F' N'; (try k_sweep)))
section
theorem absQ {M : Model} {α : Type} {A : Around} {c : Sem α} {Q : α → Shared → Prop} {E : Value → Shared → Prop} {s : Shared} (h : ∀ Q' : α → Shared → Prop, (∀ a s', Q a s' → Q' a s') → wpAny M A c Q' E s) : wpAny M A c Q E s := h Q fun _ _ h => h
inductive TxJ (D : Addr) (ys : Array Value) (k : Nat) (ps : List (List Nat)) (fs : List Nat) (sm : Int) (i : Nat) (m : Str → Option Value) (nw : List (Addr × Obj)) : Prop
  | mk (e : nw = [(D, W.listOf ys k), (121, tabObj #[])]) (segs : List (List Nat)) (t1 ts tt : Tok) (H : Has m [("text", .str (sx segs.flatten) t1), ("pieces", .ref D), ("signs", .str (sx fs) ts), ("total", .int sm tt)]) (S : Paired Seg (ps.take i) segs)
inductive RdJ (w : World) (a : LexA) (D : Addr) (ys : Array Value) (k : Nat) (q121 : Array Value) (segs ps : List (List Nat)) (fs : List Nat) (i : Nat) (m : Str → Option Value) (nw : List (Addr × Obj)) : Prop
  | mk (ln : Int) (tl : Tok) (left : List Value) (nl : Nat) (lead : List Nat) (t1 t2 ts : Tok) (np : Nat) (e : nw = a.objs w ln tl left nl #[] np ++ [(D, W.listOf ys k), (121, tabObj q121)]) (hL : Lead lead) (hW : Words left ((lead ++ (segs.drop i).flatten).map fun c => [c])) (hl : (lead ++ (segs.drop i).flatten).length ≤ 200) (h0 : 0 ≤ ln) (hc : ln + ((lead ++ (segs.drop i).flatten).count 10 : Nat) = 1 + (segs.flatten.count 10 : Nat))
      (H : Has m [("whole", .str (sx (ps.take i).flatten) t1), ("lexer", .ref a.X), ("text", .str (sx segs.flatten) t2), ("signs", .str (sx fs) ts)])
inductive LnJ (w : World) (a : LexA) (ln : Int) (tl1 : Tok) (left1 : List Value) (nl1 : Nat) (LN : Addr) (q121 : Array Value) (x : List Nat) (hi lo : Nat) (segs : List (List Nat)) (fs : List Nat) (i : Nat) (m : Str → Option Value) (nw : List (Addr × Obj)) : Prop
  | mk (vs : List Value) (kk np : Nat) (t1 t2 ts : Tok) (e : nw = a.objs w ln tl1 left1 nl1 (List.toArray vs) np ++ [(LN, W.listOf (List.toArray vs) kk), (121, tabObj q121)]) (hW : Words vs (pushed x hi lo i)) (H : Has m [("line", .ref LN), ("whole", .str (sx x) t1), ("lexer", .ref a.X), ("text", .str (sx segs.flatten) t2), ("signs", .str (sx fs) ts)])
inductive TpJ (w : World) (a : LexA) (ln : Int) (tl1 : Tok) (left1 : List Value) (nl1 : Nat) (LN : Addr) (q121 : Array Value) (x : List Nat) (segs : List (List Nat)) (fs : List Nat) (vs : List Value) (w1 w2 : Value) (TU I : Addr) (o : Obj) (j : Nat) (m : Str → Option Value) (nw : List (Addr × Obj)) : Prop
  | mk (kk np : Nat) (t1 t2 ts : Tok) (e : nw = a.objs w ln tl1 left1 nl1 (List.toArray (vs ++ [w1, w2].take j)) np ++ [(LN, W.listOf (List.toArray (vs ++ [w1, w2].take j)) kk), (TU, tupObj w1 w2 0), (I, o), (121, tabObj q121)]) (H : Has m [("line", .ref LN), ("whole", .str (sx x) t1), ("lexer", .ref a.X), ("text", .str (sx segs.flatten) t2), ("signs", .str (sx fs) ts)])
inductive GtJ (w : World) (a : LexA) (ln : Int) (tl1 : Tok) (left1 : List Value) (nl1 : Nat) (LN : Addr) (q121 : Array Value) (x : List Nat) (segs : List (List Nat)) (vs : List Value) (kk : Nat) (i : Nat) (m : Str → Option Value) (nw : List (Addr × Obj)) : Prop
  | mk (np : Nat) (t1 t2 : Tok) (e : nw = a.objs w ln tl1 left1 nl1 (List.toArray (vs.drop (2 * i))) np ++ [(LN, W.listOf (List.toArray vs) kk), (121, tabObj q121)]) (H : Has m [("line", .ref LN), ("whole", .str (sx x) t1), ("lexer", .ref a.X), ("text", .str (sx segs.flatten) t2)])
set_option maxHeartbeats 8000000 in
theorem law_holds : PySem.Challenge.rw_sw0018_01.Holds := hd (by
  delta hd.dlaw
  k_go0
  all_goals (try k_fold)
  rename Frag.In _ _ => X9
  rename Top _ _ _ _ _ _ => T9
  rename Below _ _ _ _ => K9
  rename Fr _ _ _ _ => F
  rename News _ _ _ _ => N
  rename CodeHd _ _ _ => C9
  rename IntsAre _ _ => hI
  rename Heap.IsList (ghostOf _ _) _ _ => hl
  rename ¬ _ < _ => hlen
  rename @LT.lt Nat _ 121 _ => l0
  rename World => w
  have G9 : Gd w _ := ⟨X9, _, _, _, _, topRead_of T9⟩
  clear K9
  obtain ⟨m, F2, H⟩ : ∃ m, Fr _ _ _ m ∧ Has m _ := ⟨_, F, Has.of_lookup _⟩
  clear F
  dsimp only [List.reverse, List.reverseAux] at H
  revert X9
  k_fill
  intro X9
  have hn150 : nsIn (hd.heap_39 w.params) mainGlobals "_law_told" = some (some (.ref 150)) := by k_dflt k_is
  obtain ⟨o150, fd150, ho150, hf150⟩ : ∃ o fd, Heap.get? _ 150 = some o ∧ o.data = .func fd := ⟨_, _, X9 150 _ (by k_dflt k_is), rfl⟩
  have T := topRead_of T9
  refine asAr rfl (Nat.le_of_ble_eq_true rfl) (Nat.le_of_ble_eq_true rfl) ?_
  intro dp un fr gd hdp hun
  refine absQ ?_
  intro QQ hQQ
  rename List Int => xs
  k_steps
  rename Fr _ _ _ _ => F9
  rename News _ _ _ _ => N9
  obtain ⟨fs, hi, lo, hfs, hf4, hf0, hf1, hpr, h46, h128⟩ := signs_are (xs.sum.fmod 7) (Int.fmod_nonneg_of_pos _ (by decide)) (Int.fmod_lt_of_pos _ (by decide))
  refine Stop.mk ?_
  refine' slice_strN_ss F9 N9 (fun h' t' k F' N' => ?_) ?hsg ?htg ?szg
  case hsg => with_unfolding_all rfl
  case htg => intro _; with_unfolding_all rfl
  case szg => exact Nat.le_of_ble_eq_true rfl
  rw [hfs]
  k_steps
  rename Fr _ _ _ _ => F9
  rename News _ _ _ _ => N9
  refine Stop.mk ?_
  refine kba_turn (value' := Expr.Name (Str.ofString "_") ⟨0, 0, 0, 0⟩) (fun _ => rfl) ?_
  refine' kmk_slice_ints (ns := [5, 8, 4]) ?F2 ?N2 ?l2 ?p2 ?q2 ?i2 ?m2 ?c2 ?_ ?s2 ?t2 ?z2
  case F2 => exact F9
  case N2 => exact N9
  case l2 => exact News.isList (by k_asm) (by k_mem)
  case p2 => exact IsPart.int _ _
  case q2 => exact IsPart.none
  case i2 => exact .cons _ _ (.cons _ _ (.cons _ _ .nil))
  case m2 => exact kmk_from (.cons _ _ (.cons _ _ (.cons _ _ .nil))) (Int.natCast_nonneg _)
  case c2 => exact rfl
  case s2 => with_unfolding_all rfl
  case t2 => intro _; with_unfolding_all rfl
  case z2 => exact Nat.le_of_ble_eq_true rfl
  intro D' ws' h' F' N' l1 hI' hC' hL'
  (try k_lt l1)
  (try k_sweep)
  k_steps
  rename Fr _ _ _ _ => F9
  rename News _ _ _ _ => N9
  rename IntsAre _ (List.take 7 _ ++ _) => hI3
  refine Stop.mk ?_
  refine' c_pieces w fs hf4 _ _ (List.toArray _) _ hI3 _ _ _ _ _ _ _ ?hl3 (G9.keeps F9.keep) (by omega) (by omega) ?_
  case hl3 => exact News.isList (by k_asm) (by k_mem)
  intro D ys k ps h' tk' K' hD0 hD hW hP
  have hsz : ys.size ≤ 12 := by
    have := hW.length
    have := len_le_flat fun p hp => (hP.each p hp).1
    have := hP.len
    rw [← Array.length_toList]; omega
  obtain ⟨F8, N8, hneD⟩ := news_fresh F9 N9 K' hD0 hD
  clear F9 N9 K' hD
  have N10 := news_two (p1 := (D, W.listOf ys k)) (p2 := (121, tabObj #[])) N8 (by k_mem) (by k_mem)
  have hD121 : (121 : Addr) ≠ D := hneD (121, tabObj #[]) (by k_mem)
  clear N8 hneD
  k_steps
  rename Fr _ _ _ _ => F9
  rename News _ _ _ _ => N9
  rename Has _ _ => H9
  rename IsRange _ _ _ _ _ _ _ _ => R9
  have hps := hP.len
  have hpl : ps.length ≤ 12 := Nat.le_trans (len_le_flat fun p hp => (hP.each p hp).1) hps
  have hyl : ys.size = ps.length := by have := hW.length; rwa [Array.length_toList] at this
  refine Stop.mk ?_
  refine' iterRange (n := ps.length) (TxJ D ys k ps fs xs.sum) ?xa1 ?xb1 ?xc1 ?xF1 ?xN1 ?xR1 ?xsm1 ?xsz1 ?xj1 ?xturn1 ?xdone1
  case xa1 => rfl
  case xb1 => rfl
  case xc1 => rfl
  case xF1 => exact F9
  case xN1 => exact N9
  case xR1 => exact R9
  case xsm1 => exact small_nat _ _ (by omega) (by omega)
  case xsz1 => rw [rangeSize_nat]; omega
  case xj1 => exact ⟨rfl, [], _, _, _, H9.sub ⟨rfl, rfl, rfl, rfl, trivial⟩, .nil⟩
  case xturn1 =>
    clear F9 N9 H9 R9
    intro i t m₁ news₁ I h tk o hi hJ hne F N
    obtain ⟨rfl, segs, t1, ts, tt, H, hS⟩ := hJ
    replace H := H.put "place" (.int (0 + (i : Nat)) t)
    obtain ⟨p, hpi⟩ : ∃ p, ps[i]? = some p := ⟨_, List.getElem?_eq_getElem hi⟩
    obtain ⟨tp, hyi⟩ := words_at hW hpi
    have ei : ((0 : Int) + (i : Nat)).toNat = i := by omega
    have hyi2 : ys.toList[((0 : Int) + (i : Nat)).toNat]? = some (.str (sx p) tp) := by rw [ei]; exact hyi
    have hsl := segs_len hS
    have hfl := flat_take_le ps i
    have htl : (ps.take i).length = i := by rw [List.length_take]; omega
    have hb : segs.flatten.length ≤ 60 := by rw [htl] at hsl; omega
    have hpp : p.length ≤ 12 := by
      have e := flat_take_le ps (i + 1)
      rw [take_flat hpi, flat_snoc, List.length_append] at e
      omega
    have hsh := shield_len p
    have hm1 := Int.fmod_nonneg_of_pos ((0 : Int) + (i : Nat)) (show (0:Int) < 4 by decide)
    have hm2 := Int.fmod_lt_of_pos ((0 : Int) + (i : Nat)) (show (0:Int) < 4 by decide)
    obtain ⟨wc, hwc, hws⟩ : ∃ c, ([10, 9, 13, 32] : List Nat)[(((0 : Int) + (i : Nat)).fmod 4).toNat]? = some c ∧ isWs c = true := by
      generalize ((0 : Int) + (i : Nat)).fmod 4 = z at hm1 hm2
      have : z = 0 ∨ z = 1 ∨ z = 2 ∨ z = 3 := by omega
      rcases this with rfl | rfl | rfl | rfl <;> exact ⟨_, rfl, rfl⟩
    have cm : CompMark [] (fun _ => true) ShF := trivial
    have hq1 : ([34] : List Nat).length = 1 := rfl
    have hq2 : ([wc] : List Nat).length = 1 := rfl
    k_steps
    clear cm
    rename Fr _ _ _ _ => F9
    rename News _ _ _ _ => N9
    rename Has _ _ => H9
    refine Stop.mk ?_
    refine' compStr rfl (by omega) (compq_shield rfl rfl) F9 N9 ?_
    intro D2 ys2 k2 h2 tk2 vs2 F2 N2 hne2 hW2 hP2 K2 hD2
    have hW3 := shield_words hW2 hP2
    clear hW2 hP2 F9 N9
    k_steps
    all_goals (rename Fr _ _ _ _ => F9)
    all_goals (rename News _ _ _ _ => N9)
    all_goals (rename Has _ _ => H9)
    · have e1 : (segs ++ [34 :: (shield p ++ [34, wc])]).flatten = segs.flatten ++ ([34] ++ shield p ++ [34]) ++ [wc] := by simp
      refine ⟨_, _, _, _, rfl, F9, N9, by k_mem, [(D, W.listOf ys k), (121, tabObj #[])], fun p hp => .tail _ (.tail _ hp), hne, rfl, segs ++ [34 :: (shield p ++ [34, wc])], _, _, _, H9.sub ⟨by rw [e1]; rfl, rfl, rfl, rfl, trivial⟩, ?_⟩
      rw [take_flat hpi]; exact hS.snoc ⟨wc, hws, .inr rfl⟩
    · have e1 : (segs ++ [shield p ++ [wc]]).flatten = segs.flatten ++ shield p ++ [wc] := by simp
      refine ⟨_, _, _, _, rfl, F9, N9, by k_mem, [(D, W.listOf ys k), (121, tabObj #[])], fun p hp => .tail _ (.tail _ hp), hne, rfl, segs ++ [shield p ++ [wc]], _, _, _, H9.sub ⟨by rw [e1]; rfl, rfl, rfl, rfl, trivial⟩, ?_⟩
      rw [take_flat hpi]; exact hS.snoc ⟨wc, hws, .inl rfl⟩
  case xdone1 =>
    clear F9 N9 H9 R9
    intro m₁ news₁ h tk hJ F N
    obtain ⟨rfl, segs, t1, ts, tt, H, hS⟩ := hJ
    rw [List.take_length] at hS
    have hsl := segs_len hS
    have hxl : segs.flatten.length ≤ 200 := by omega
    k_steps
    rename Fr _ _ _ _ => F9
    rename News _ _ _ _ => N9
    refine Stop.mk ?_
    have n121 := (N9 (121, tabObj #[]) (by k_mem)).2.2
    have hK9 := ext_hide (l := [121]) F9.keep (fun a ha => by rw [List.mem_singleton.mp ha]; exact n121)
    refine' c_lexer w segs.flatten _ hxl _ _ _ _ _ _ _ _ (T9.keeps hK9) (C9.keeps hK9) hide_ext hide_size (N9 (121, tabObj #[]) (by k_mem)).1 (hideAll_none _ (.head _)) (G9.keeps hK9) (by omega) (by omega) ?_
    intro a tl left nl h2 tk2 ok hce hWl hobjs Kx hgr
    obtain ⟨q121, e121⟩ := hgr
    obtain ⟨F8, N8, hDce, h121ce⟩ := lexer_in ok F9 N9 hD121 l0 Kx hce hobjs e121
    clear F9 N9 hK9 Kx hobjs n121
    dsimp only [LexA.objs, lexEs, List.cons_append, List.nil_append] at N8
    have o1 := ok.o1; have o2 := ok.o2; have o3 := ok.o3; have o4 := ok.o4; have o5 := ok.o5; have o6 := ok.o6; have o7 := ok.o7; have o8 := ok.o8
    k_steps
    rename Fr _ _ _ _ => F9
    rename News _ _ _ _ => N9
    rename Has _ _ => H9
    have hct : segs.flatten.count 10 ≤ 200 := Nat.le_trans List.count_le_length hxl
    refine Stop.mk ?_
    refine' iterMade (l := D) (its := ys) (ep := k) (RdJ w a D ys k q121 segs ps fs) rfl rfl rfl F9 N9 ?xl2 ?xj2 ?xturn2 ?xdone2
    case xl2 =>
      rintro i m nw ⟨ln, tl, left, nl, lead, t1, t2, ts, np, rfl, _⟩
      exact List.mem_append_right _ (.head _)
    case xj2 => exact ⟨1, tl, left, nl, [], _, _, _, 0, rfl, .inl rfl, hWl, hxl, by decide, rfl, H9.sub ⟨rfl, rfl, rfl, rfl, trivial⟩⟩
    case xturn2 =>
      clear F9 N9 H9 F8 hWl
      intro i v m₁ news₁ I h tk o hi hJ hne F N
      obtain ⟨ln, tl1, left1, nl1, lead, t1, t2, ts, np, rfl, hLd, hW1, hl200, h0, hcn, H⟩ := hJ
      obtain ⟨p, tp, hpi, rfl⟩ := words_get hW (i := i) (by rw [Array.getElem?_toList]; exact hi)
      obtain ⟨seg, hsi, hSg, hdr⟩ := paired_drop hS i p hpi
      have hp1 := (hP.each p (List.mem_of_getElem? hpi)).1
      obtain ⟨lead', hLd', hT⟩ := seg_tk (rest := (segs.drop (i+1)).flatten) hSg hp1 hLd
      rw [hdr, List.flatten_cons] at hW1 hl200 hcn
      have hfl := flat_take_le ps i
      have hpp : p.length ≤ 12 := by
        have e := flat_take_le ps (i + 1)
        rw [take_flat hpi, flat_snoc, List.length_append] at e
        omega
      replace H := H.put "piece" (.str (sx p) tp)
      have N0 := news_rot N
      dsimp only [LexA.objs, lexEs, List.cons_append, List.nil_append] at N0
      clear N
      k_steps
      rename Fr _ _ _ _ => F9
      rename News _ _ _ _ => N9
      refine Stop.mk ?_
      have N7 : News _ _ _ (a.objs w ln tl1 left1 nl1 #[] np ++ [(I, o), (D, W.listOf ys k), (121, tabObj q121)]) := N9
      refine' c_token w a ok ln tl1 left1 nl1 np _ p _ _ _ _ _ _ _ _ hT hW1 hl200 ⟨h0, by omega⟩ (objs_get N7) (G9.hide F9.keep (objs_none N7)) (by omega) (by omega) ?_
      intro h3 t3 tk3 tl2 left2 nl2 ln2 hB hW2 hcn2 h02 e2
      obtain ⟨F8, N8⟩ := liftObjs hB F9 N7 (objs' := a.objs w ln2 tl2 left2 nl2 #[] np) rfl e2 in_dXLD (rest_ok ok in_dXLD (two_lt hDce h121ce) hne)
      clear F9 N9 N7 hB e2
      dsimp only [LexA.objs, lexEs, List.cons_append, List.nil_append] at N8
      have hl1 : (ps.take i).flatten.length ≤ 12 := by omega
      k_steps
      all_goals (rename Fr _ _ _ _ => F9)
      all_goals (rename News _ _ _ _ => N9)
      all_goals (rename Has _ _ => H9)
      · rename (_ != _) = true => q
        simp at q
      · have ew : sx (ps.take (i + 1)).flatten = sx (ps.take i).flatten ++ sx p := by rw [take_flat hpi, flat_snoc, add_sx]
        have hdl := flat_drop_le segs (i + 1)
        have hll := lead_len hLd'
        refine ⟨_, _, _, _, rfl, F9, N9, by k_mem, a.objs w ln2 tl2 left2 nl2 #[] np ++ [(D, W.listOf ys k), (121, tabObj q121)], sub_rot (q := (I, o)), ne_addr (A := a.objs w ln tl1 left1 nl1 #[] np) rfl hne, ln2, tl2, left2, nl2, lead', _, _, _, np, rfl, hLd', hW2, ?_, h02, ?_, H9.sub ⟨by rw [ew]; rfl, rfl, rfl, rfl, trivial⟩⟩
        · rw [List.length_append]; omega
        · rw [hcn2]; exact hcn
    case xdone2 =>
      clear F9 N9 H9 F8 hWl
      intro m₁ news₁ h tk hJ F N
      obtain ⟨ln, tl1, left1, nl1, lead, t1, t2, ts, np, rfl, hLd, hW1, hl200, h0, hcn, H⟩ := hJ
      have hsegl := (paired_length hS).symm
      rw [hyl, List.drop_of_length_le (Nat.le_of_eq hsegl)] at hW1 hl200 hcn
      rw [hyl, List.take_length] at H
      dsimp only [LexA.objs, lexEs, List.cons_append, List.nil_append] at N
      k_steps
      rename Fr _ _ _ _ => F9
      rename News _ _ _ _ => N9
      rename Has _ _ => H9
      rename IsRange _ _ _ _ _ _ _ _ => R9
      obtain ⟨LN, eLN, N6⟩ := grabL N9
      subst eLN
      clear N9
      have hPL : @LT.lt Nat _ a.P LN := by omega
      obtain ⟨x, hx⟩ : ∃ x, x = ps.flatten := ⟨_, rfl⟩
      have hx12 : x.length ≤ 12 := by rw [hx]; exact hps
      have hxm : ∀ c ∈ x, c ∈ fs := by rw [hx]; exact hP.flat
      rw [← hx] at H9 R9
      have hd0 : fs[(0 : Int).toNat]? = some hi := hf0
      have hd1 : fs[(1 : Int).toNat]? = some lo := hf1
      have hLNlt : @LT.lt Nat _ 121 LN := by omega
      have N7 := news_two2 (A := a.objs w ln tl1 left1 nl1 #[] np) (R := [(D, W.listOf ys k), (121, tabObj q121)]) (q := (LN, W.listOf #[] 0)) (r := (121, tabObj q121)) N6 (.tail _ (.head _))
      clear N6
      refine Stop.mk ?_
      refine' iterRange (n := x.length) (LnJ w a ln tl1 left1 nl1 LN q121 x hi lo segs fs) rfl rfl rfl F9 N7 R9 ?xsm3 ?xsz3 ?xj3 ?xturn3 ?xdone3
      case xsm3 => exact small_nat _ _ (by omega) (by omega)
      case xsz3 => exact size_nat 1 (x.length + 1)
      case xj3 => exact ⟨[], 0, np, _, _, _, rfl, .nil, H9.sub ⟨rfl, rfl, rfl, rfl, rfl, trivial⟩⟩
      case xturn3 =>
        clear F9 N7 H9 R9
        intro i t m₁ news₁ I h tk o hi' hJ hne F N
        obtain ⟨vs, kk, np, t1, t2, ts, rfl, hWv, H⟩ := hJ
        replace H := H.put "reach" (.int (1 + (i : Nat)) t)
        have N0 := news_rot N
        dsimp only [LexA.objs, lexEs, List.cons_append, List.nil_append] at N0
        clear N
        have hvl := hWv.length
        rw [pushed_len] at hvl
        have hIne : I ≠ a.P := fun e => hne (a.P, W.listOf (List.toArray vs) np) (by simp [LexA.objs]) e.symm
        have hlt : (x.take ((1 : Int) + (i : Nat)).toNat).length = 1 + i := by rw [List.length_take]; omega
        have hI121 : I ≠ 121 := fun e => hne (121, tabObj q121) (by simp) e.symm
        have hILN : I ≠ LN := fun e => hne (LN, W.listOf (List.toArray vs) kk) (by simp) e.symm
        k_steps
        rename Fr _ _ _ _ => F9
        rename News _ _ _ _ => N9
        (try refine Stop.mk ?_)
        refine' c_shifts w (x.take ((1 : Int) + (i : Nat)).toNat) _ (by omega) _ _ _ _ _ _ _ (G9.keeps F9.keep) (by omega) (by omega) ?_
        intro D3 ys3 k3 h3 tk3 K3 hn3 hg3 hI3
        obtain ⟨F8, N8, hne8⟩ := news_fresh F9 N9 K3 hn3 hg3
        clear F9 N9 K3 hg3
        k_steps
        rename Fr _ _ _ _ => F9
        rename News _ _ _ _ => N9
        (try refine Stop.mk ?_)
        have hsl3 := shiftsI_len (x.take ((1 : Int) + (i : Nat)).toNat)
        rw [item_sx fs 0 hi (by decide) hd0, item_sx fs 1 lo (by decide) hd1]
        refine' c_twin w 13 (shiftsI (x.take ((1 : Int) + (i : Nat)).toNat)) (1 + (i : Nat)) hi lo D3 ys3.toList _ _ _ _ _ _ _ _ _ _ ?yl3 hI3 ?yi3 ?ys3 ?ym3 ?yG3 ?yd3 ?yu3 ?_
        case yl3 => omega
        case yi3 => exact ⟨_, (N9 (D3, _) (by k_mem)).1, rfl, _, rfl⟩
        case ys3 => constructor <;> omega
        case ym3 => intro q hq; have := shiftsI_mem hq; omega
        case yG3 => exact G9.keeps F9.keep
        case yd3 => omega
        case yu3 => omega
        intro h4 t4 tk4 K4
        obtain ⟨F8, N8⟩ := lift2 K4 F9 N9
        clear F9 N9 K4
        k_steps
        rename Fr _ _ _ _ => F9
        rename News _ _ _ _ => N9
        rename Has _ _ => H9
        obtain ⟨TU, w1, w2, ep, eTU, ew1, ew2, eep, N6⟩ := grab N9
        subst eTU
        subst eep
        clear N9
        have hPT : @LT.lt Nat _ a.P TU := by omega
        have h121P : @LT.lt Nat _ 121 a.P := by omega
        have N5 := news_five (A := a.objs w ln tl1 left1 nl1 (List.toArray vs) np) N6
        clear N6
        have e0 : vs ++ [w1, w2].take 0 = vs := by simp
        refine Stop.mk ?_
        refine' iterTuple (l := TU) (its := #[w1, w2]) (ep := 0) (TpJ w a ln tl1 left1 nl1 LN q121 x segs fs vs w1 w2 TU I o) rfl rfl rfl F9 N5 ?xl4 ?xj4 ?xturn4 ?xdone4
        case xl4 =>
          rintro j m nw ⟨kk, np, t1, t2, ts, rfl, _⟩
          exact List.mem_append_right _ (.tail _ (.head _))
        case xj4 => exact ⟨kk, np, _, _, _, by rw [e0], H9.sub ⟨rfl, rfl, rfl, rfl, rfl, trivial⟩⟩
        case xturn4 =>
          clear F9 N5 H9 H
          intro j v m₂ news₂ Ij h5 tk5 oj hv hJ2 hne2 F N
          obtain ⟨kk2, np2, t12, t22, ts2, rfl, H⟩ := hJ2
          obtain ⟨vj, hvj⟩ : ∃ vj, vj = vs ++ [w1, w2].take j := ⟨_, rfl⟩
          have hnx : vs ++ [w1, w2].take (j + 1) = vj ++ [v] := by rw [hvj]; exact take_two vs w1 w2 v j hv
          have hvjl : vj.length ≤ 100 := by
            have h2 := List.length_take_le 2 [w1, w2]
            rw [hvj, List.length_append, List.length_take]
            simp only [List.length_cons, List.length_nil]
            omega
          rw [← hvj] at hne2 N
          replace H := H.put "token" v
          have N0 := news_rot N
          have hz1 : Ij ≠ LN := fun e => hne2 (LN, W.listOf (List.toArray vj) kk2) (List.mem_append_right _ (.head _)) e.symm
          have hz2 : TU ≠ LN := Nat.ne_of_gt (by omega)
          have hz3 : (121 : Addr) ≠ LN := Nat.ne_of_lt hLNlt
          have hU : UpdP LN (W.listOf (List.toArray vj) kk2) (a.objs w ln tl1 left1 nl1 (List.toArray vj) np2 ++ (Ij, oj) :: [(LN, W.listOf (List.toArray vj) kk2), (TU, tupObj w1 w2 0), (I, o), (121, tabObj q121)]) (fun o' => a.objs w ln tl1 left1 nl1 (List.toArray vj) np2 ++ (Ij, oj) :: [(LN, o'), (TU, tupObj w1 w2 0), (I, o), (121, tabObj q121)]) :=
            fun o' => upd_app (.tail hz1 (.head (by
              intro p hp
              simp only [List.mem_cons, List.not_mem_nil, or_false] at hp
              rcases hp with rfl | rfl | rfl
              · exact hz2
              · exact hILN
              · exact hz3))) (objs_notin ok hPL)
          dsimp only [LexA.objs, lexEs, List.cons_append, List.nil_append] at N0 hU
          clear N
          k_steps
          rename Fr _ _ _ _ => F9
          rename News _ _ _ _ => N9
          refine Stop.mk ?_
          have N7 : News _ _ _ (a.objs w ln tl1 left1 nl1 (List.toArray vj) np2 ++ (Ij, oj) :: [(LN, W.listOf ((List.toArray vj).push v) (kk2 + 1)), (TU, tupObj w1 w2 0), (I, o), (121, tabObj q121)]) := N9
          refine' c_push w a ok ln tl1 left1 nl1 np2 v (List.toArray vj) _ _ _ _ _ _ _ (by rw [List.size_toArray]; exact hvjl) (objs_get N7) (G9.hide F9.keep (objs_none N7)) (by omega) (by omega) ?_
          intro h6 tk6 hB e6
          obtain ⟨F8, N8⟩ := liftObjs hB F9 N7 (objs' := a.objs w ln tl1 left1 nl1 ((List.toArray vj).push v) (np2 + 1)) rfl e6 in_P (not_P (fun e => hne2 (a.P, W.listOf (List.toArray vj) np2) (by simp [LexA.objs]) e.symm) (Nat.ne_of_gt hPL) (Nat.ne_of_gt hPT) hIne (Nat.ne_of_lt h121P))
          clear F9 N9 N7 hB e6 hU
          k_steps
          rename Fr _ _ _ _ => F9
          rename News _ _ _ _ => N9
          have epush : (List.toArray vj).push v = List.toArray (vs ++ [w1, w2].take (j + 1)) := by rw [hnx]; simp
          rw [epush] at N9
          exact ⟨_, _, _, _, rfl, F9, N9, List.mem_append_right _ (.head _), a.objs w ln tl1 left1 nl1 (List.toArray (vs ++ [w1, w2].take (j + 1))) (np2 + 1) ++ [(LN, W.listOf (List.toArray (vs ++ [w1, w2].take (j + 1))) (kk2 + 1)), (TU, tupObj w1 w2 0), (I, o), (121, tabObj q121)], sub_rot (q := (Ij, oj)), ne_map (X := a.objs w ln tl1 left1 nl1 (List.toArray vj) np2 ++ [(LN, W.listOf (List.toArray vj) kk2), (TU, tupObj w1 w2 0), (I, o), (121, tabObj q121)]) rfl hne2, kk2 + 1, np2 + 1, _, _, _, rfl, H.sub ⟨rfl, rfl, rfl, rfl, rfl, trivial⟩⟩
        case xdone4 =>
          clear F9 N5 H9 H
          intro m₂ news₂ h5 tk5 hJ2 F N
          obtain ⟨kk2, np2, t12, t22, ts2, rfl, H⟩ := hJ2
          have e2 : vs ++ [w1, w2].take (#[w1, w2] : Array Value).size = vs ++ [w1] ++ [w2] := by simp
          rw [e2] at N
          k_steps
          refine ⟨_, _, _, _, rfl, F, N, List.mem_append_right _ (.tail _ (.tail _ (.head _))), a.objs w ln tl1 left1 nl1 (List.toArray (vs ++ [w1] ++ [w2])) np2 ++ [(LN, W.listOf (List.toArray (vs ++ [w1] ++ [w2])) kk2), (121, tabObj q121)], sub_two, ne_map (X := a.objs w ln tl1 left1 nl1 (List.toArray vs) np ++ [(LN, W.listOf (List.toArray vs) kk), (121, tabObj q121)]) rfl hne, vs ++ [w1] ++ [w2], kk2, np2, _, _, _, rfl, ?_, H.sub ⟨rfl, rfl, rfl, rfl, rfl, trivial⟩⟩
          rw [pushed_succ, ew1, ew2]
          exact hWv.snoc.snoc
      case xdone3 =>
        clear F9 N7 H9 R9
        intro m₁ news₁ h tk hJ F N
        obtain ⟨vs, kk, np, t1, t2, ts, rfl, hWv, H⟩ := hJ
        have N0 := N
        dsimp only [LexA.objs, lexEs, List.cons_append, List.nil_append] at N0
        k_steps
        rename Fr _ _ _ _ => F9
        rename Has _ _ => H9
        rename IsRange _ _ _ _ _ _ _ _ => R9
        rename News _ _ _ _ => N9
        have hvl := hWv.length
        rw [pushed_len] at hvl
        have h121P : @LT.lt Nat _ 121 a.P := by omega
        have N7 : News _ _ _ (a.objs w ln tl1 left1 nl1 (List.toArray vs) np ++ [(LN, W.listOf (List.toArray vs) kk), (121, tabObj q121)]) := N9
        clear N9 N
        refine Stop.mk ?_
        refine' iterRange (n := x.length) (GtJ w a ln tl1 left1 nl1 LN q121 x segs vs kk) rfl rfl rfl F9 N7 R9 ?xsm5 ?xsz5 ?xj5 ?xturn5 ?xdone5
        case xsm5 => exact small_nat _ _ (by omega) (by omega)
        case xsz5 => exact size_nat 0 x.length
        case xj5 => exact ⟨np, _, _, rfl, H9.sub ⟨rfl, rfl, rfl, rfl, trivial⟩⟩
        case xturn5 =>
          clear F9 N7 H9 R9 H
          intro i t m₂ news₂ I h5 tk5 o hi' hJ2 hne F N
          obtain ⟨np2, t12, t22, rfl, H⟩ := hJ2
          obtain ⟨hg1, hg2⟩ := pushed_get x hi lo x.length i hi'
          obtain ⟨ta, hv1⟩ := words_at hWv hg1
          obtain ⟨tb, hv2⟩ := words_at hWv hg2
          have hdr := drop_two hv1 hv2
          have e22 : 2 * i + 2 = 2 * (i + 1) := by omega
          rw [e22] at hdr
          rw [hdr] at N hne
          obtain ⟨st, hst⟩ : ∃ st, st = x.take ((1 : Int) + (i : Nat)).toNat := ⟨_, rfl⟩
          have hstl : st.length = 1 + i := by rw [hst, List.length_take]; omega
          obtain ⟨tw, htw⟩ : ∃ tw, tw = twinF 13 (shiftsI st) ((1 : Int) + (i : Nat)) hi lo := ⟨_, rfl⟩
          rw [← hst] at hv1 hv2 hdr N hne
          rw [← htw] at hv2 hdr N hne
          have hi1 : ((1 : Int) + (i : Nat)) = (st.length : Nat) := by omega
          obtain ⟨hgl, hgs⟩ := twin_good (x := st) (by omega) (by omega) hpr
          rw [← hi1, ← htw] at hgl hgs
          replace H := H.put "turn" (.int (0 + (i : Nat)) t)
          have N0 := news_rot N
          dsimp only [LexA.objs, lexEs, List.cons_append, List.nil_append] at N0
          clear N
          have hdl : (vs.drop (2 * (i + 1))).length ≤ 50 := by rw [List.length_drop]; omega
          have hIP : I ≠ a.P := fun e => hne (a.P, W.listOf (List.toArray (.str (sx st) ta :: .str (sx tw) tb :: vs.drop (2 * (i + 1)))) np2) (by simp [LexA.objs]) e.symm
          k_steps
          rename Fr _ _ _ _ => F9
          rename News _ _ _ _ => N9
          refine Stop.mk ?_
          have N7 : News _ _ _ (a.objs w ln tl1 left1 nl1 (List.toArray (.str (sx st) ta :: .str (sx tw) tb :: vs.drop (2 * (i + 1)))) np2 ++ [(I, o), (LN, W.listOf (List.toArray vs) kk), (121, tabObj q121)]) := N9
          refine' c_pop w a ok ln tl1 left1 nl1 np2 (.str (sx st) ta) (.str (sx tw) tb :: vs.drop (2 * (i + 1))) _ _ _ _ _ _ _ (by rw [List.length_cons]; omega) (objs_get N7) (G9.hide F9.keep (objs_none N7)) (by omega) (by omega) ?_
          intro h6 tk6 np3 hB e6
          obtain ⟨F8, N8⟩ := liftObjs hB F9 N7 (objs' := a.objs w ln tl1 left1 nl1 (List.toArray (.str (sx tw) tb :: vs.drop (2 * (i + 1)))) np3) rfl e6 in_P (not_P3 hIP (Nat.ne_of_gt hPL) (Nat.ne_of_lt h121P))
          clear F9 N9 N7 hB e6
          dsimp only [LexA.objs, lexEs, List.cons_append, List.nil_append] at N8
          k_steps
          rename Fr _ _ _ _ => F9
          rename News _ _ _ _ => N9
          refine Stop.mk ?_
          have N7 : News _ _ _ (a.objs w ln tl1 left1 nl1 (List.toArray (.str (sx tw) tb :: vs.drop (2 * (i + 1)))) np3 ++ [(I, o), (LN, W.listOf (List.toArray vs) kk), (121, tabObj q121)]) := N9
          refine' c_pop w a ok ln tl1 left1 nl1 np3 (.str (sx tw) tb) (vs.drop (2 * (i + 1))) _ _ _ _ _ _ _ (by omega) (objs_get N7) (G9.hide F9.keep (objs_none N7)) (by omega) (by omega) ?_
          intro h7 tk7 np4 hB e6
          obtain ⟨F8, N8⟩ := liftObjs hB F9 N7 (objs' := a.objs w ln tl1 left1 nl1 (List.toArray (vs.drop (2 * (i + 1)))) np4) rfl e6 in_P (not_P3 hIP (Nat.ne_of_gt hPL) (Nat.ne_of_lt h121P))
          clear F9 N9 N7 hB e6
          dsimp only [LexA.objs, lexEs, List.cons_append, List.nil_append] at N8
          k_steps
          rename Fr _ _ _ _ => F9
          rename News _ _ _ _ => N9
          refine Stop.mk ?_
          refine' kmk_slice F9 N9 (News.isList N9 (by k_mem)) (IsPart.int _ _) (IsPart.int _ _) ?_ ?hs5 ?ht5 ?hz5
          case hs5 => with_unfolding_all rfl
          case ht5 => intro _; with_unfolding_all rfl
          case hz5 => rw [sizeLine_eq, List.size_toArray]; omega
          intro D5 h8 F8 N8 l1
          rw [pick_two hv1 hv2 (by omega) (by omega)] at N8
          (try k_lt l1)
          clear F9 N9
          k_steps
          rename Fr _ _ _ _ => F9
          rename News _ _ _ _ => N9
          have hst128 : ∀ c ∈ st, c < 128 := fun c hc => h128 c (hxm c (by rw [hst] at hc; exact List.mem_of_mem_take hc))
          have hst46 : 46 ∉ st := fun hc => h46 (hxm 46 (by rw [hst] at hc; exact List.mem_of_mem_take hc))
          have hhi : hi ∈ fs := List.mem_of_getElem? hf0
          have hlo : lo ∈ fs := List.mem_of_getElem? hf1
          have htwm : ∀ c ∈ tw, c ∈ fs := by
            intro c hc
            rw [htw] at hc
            rcases twinF_mem _ _ _ _ _ c hc with rfl | rfl
            · exact hhi
            · exact hlo
          have htw46 : 46 ∉ tw := fun hc => h46 (htwm 46 hc)
          have hc128 : ∀ p ∈ [st, tw], ∀ c ∈ p, c < 128 := by
            intro p hp
            rcases List.mem_cons.mp hp with rfl | hp
            · exact hst128
            · rw [List.mem_singleton.mp hp]; exact fun c hc => h128 c (htwm c hc)
          have htwl : tw.length ≤ 12 := by rw [hgl]; omega
          obtain ⟨Du, hDu⟩ : ∃ Du, Du = dueF (1 + i) (shiftsI st) := ⟨_, rfl⟩
          have hD1 : toldN st (st.length + 1) = Du := by rw [told_due st (by omega), hDu, hstl]
          have hD2 : toldN tw (tw.length + 1) = Du := by rw [told_due tw (by rw [hgl]; omega), hDu, hgl, hgs, hstl]
          have hur : un + 3 + 64 < cLine := by rw [cLine_eq]; omega
          refine Stop.mk ?_
          refine' ne_same_words (ps := [st, tw]) (News.isList N9 (by k_mem)) (News.isList N9 (by k_mem)) (.cons ⟨_, rfl⟩ (.cons ⟨_, rfl⟩ .nil)) (.cons ⟨_, rfl⟩ (.cons ⟨_, rfl⟩ .nil)) hc128 (Nat.lt_of_le_of_lt (Nat.add_le_add_right (Nat.le_add_right un 3) 64) hur) ?_
          have cm : CompMark [] (fun _ => true) PwF := trivial
          k_steps
          clear cm
          rename Fr _ _ _ _ => F9
          rename News _ _ _ _ => N9
          refine Stop.mk ?_
          have cm2 : CompMark [] (fun _ => true) (ToldF Du) := trivial
          refine' c_shifts w st _ (by omega) _ _ _ _ _ _ _ (G9.keeps F9.keep) (by omega) (by omega) ?_
          intro D6 ys6 k6 h9 tk9 K9 hn6 hg6 hI6
          obtain ⟨F8, N8, hne6⟩ := news_fresh F9 N9 K9 hn6 hg6
          clear F9 N9 K9 hg6
          k_steps
          rename Fr _ _ _ _ => F9
          rename News _ _ _ _ => N9
          refine Stop.mk ?_
          have hsl6 := shiftsI_len st
          have hIl := hI6.length
          refine' compList rfl (News.isList N9 (by k_mem)) ?sz6 (CompQ.weaken (compq_pow rfl rfl) ?wk6) F9 N9 ?_
          case sz6 => rw [← Array.length_toList, hIl]; omega
          case wk6 =>
            intro v hv
            obtain ⟨q, tq, e, hq⟩ := ints_mem hI6 v hv
            have := shiftsI_mem hq
            exact ⟨q, tq, e, by omega, by omega⟩
          intro D7 ys7 k7 h10 tk10 F8 N8 hne7 hP7 K7 hD7
          have hI7 := pow_ints hI6 hP7
          clear F9 N9
          k_steps
          clear cm2
          rename Fr _ _ _ _ => F9
          rename News _ _ _ _ => N9
          refine Stop.mk ?_
          refine' compList rfl (News.isList N9 (by k_mem)) (Nat.le_of_ble_eq_true rfl) (CompQ.weaken (compq_told rfl rfl rfl (fun _ => trivial) G9 F9.keep (by omega) (by omega) hn150 (fun _ => rfl) (fun _ => rfl) (fun _ => rfl) ho150 hf150) ?wk8) F9 N9 ?_
          case wk8 =>
            intro v hv
            rcases List.mem_cons.mp hv with rfl | hv
            · exact ⟨st, ta, rfl, by omega, hst46, hD1⟩
            · rw [List.mem_singleton.mp hv]; exact ⟨tw, tb, rfl, htwl, htw46, hD2⟩
          intro D8 ys8 k8 h11 tk11 F8 N8 hne8 hP8 K8 hD8
          have hI8 := told_ints hP8
          have hDw : 1 + 2 ^ ((0 : Int) + (i : Nat) + 1).toNat + (List.map (fun q : Int => (2 : Int) ^ q.toNat) (shiftsI st)).sum = Du := by
            rw [hDu, dueF, show ((0 : Int) + (i : Nat) + 1).toNat = 1 + i by omega]
          clear F9 N9
          rename Has _ _ => H9
          rw [hDw] at H9
          k_steps
          rename Fr _ _ _ _ => F9
          rename News _ _ _ _ => N9
          refine Stop.mk ?_
          refine' ke_ne_ints (ns := [Du, Du]) (ms := [Du, Du]) (News.isList N9 (by k_mem)) (News.isList N9 (by k_mem)) hI8 (.cons _ _ (.cons _ _ .nil)) (Nat.lt_of_le_of_lt (Nat.add_le_add_right (Nat.le_add_right un 3) 64) hur) ?_
          rw [decide_eq_true rfl]
          k_steps
          rename Fr _ _ _ _ => F9
          rename News _ _ _ _ => N9
          rename Has _ _ => H9
          exact ⟨_, _, _, _, rfl, F9, N9, by k_mem, a.objs w ln tl1 left1 nl1 (List.toArray (vs.drop (2 * (i + 1)))) np4 ++ [(LN, W.listOf (List.toArray vs) kk), (121, tabObj q121)], fun p hp => .tail _ (.tail _ (.tail _ (.tail _ (.tail _ (.tail _ (sub_rot (q := (I, o)) p hp)))))),
            ne_map (X := a.objs w ln tl1 left1 nl1 (List.toArray (.str (sx st) ta :: .str (sx tw) tb :: vs.drop (2 * (i + 1)))) np2 ++ [(LN, W.listOf (List.toArray vs) kk), (121, tabObj q121)]) rfl hne, np4, _, _, rfl, H9.sub ⟨rfl, rfl, rfl, rfl, trivial⟩⟩
        case xdone5 =>
          clear F9 N7 H9 R9 H
          intro m₂ news₂ h5 tk5 hJ2 F N
          obtain ⟨np2, t12, t22, rfl, H⟩ := hJ2
          rw [List.drop_of_length_le (by omega)] at N
          have N0 := N
          dsimp only [LexA.objs, lexEs, List.cons_append, List.nil_append] at N0
          clear N
          k_steps
          rename Fr _ _ _ _ => F9
          rename News _ _ _ _ => N9
          refine Stop.mk ?_
          have N7 : News _ _ _ (a.objs w ln tl1 left1 nl1 #[] np2 ++ [(LN, W.listOf (List.toArray vs) kk), (121, tabObj q121)]) := N9
          have hcn' : ln + ((lead ++ []).count 10 : Nat) = 1 + (segs.flatten.count 10 : Nat) := hcn
          refine' c_token w a ok ln tl1 left1 nl1 np2 (lead ++ []) [] [] _ _ _ _ _ _ _ (lead_stop hLd) hW1 hl200 ⟨h0, by omega⟩ (objs_get N7) (G9.hide F9.keep (objs_none N7)) (by omega) (by omega) ?_
          intro h6 t6 tk6 tl2 left2 nl2 ln2 hB hW2 hcn2 h02 e6
          obtain ⟨F8, N8⟩ := liftObjs hB F9 N7 (objs' := a.objs w ln2 tl2 left2 nl2 #[] np2) rfl e6 in_dXLD (two_not (Nat.ne_of_gt (by omega)) (Nat.ne_of_gt (by omega)) (Nat.ne_of_lt (by omega)) (Nat.ne_of_lt (by omega)))
          clear F9 N9 N7 hB e6
          dsimp only [LexA.objs, lexEs, List.cons_append, List.nil_append] at N8
          k_steps
          have hfin : (ln2 == 1 + Txt.count (sx segs.flatten) "\n") = true := by
            rw [count_nl, beq_iff_eq]
            have h1 : ln2 + ((([] : List Nat).count 10 : Nat) : Int) = ln + ((lead ++ []).count 10 : Nat) := hcn2
            simp only [List.count_nil] at h1
            omega
          rw [hfin]
          refine hQQ _ _ ?_
          k_steps)

end
end
end
end
end Mine
theorem PySem.Challenge.cw_sw0018_01_holds : PySem.Challenge.rw_sw0018_01.Holds :=
  Mine.law_holds
