import PyProof.Rows.All
import Wide.All
import OpenK.AllK
import Wide.FinOn
import PySem.Challenge.RW_pe0084_01
set_option Elab.async false
namespace Mine
open PySem PySem.W PyProof.Rows
set_option maxRecDepth 100000
set_option maxHeartbeats 8000000
open_top hd for PySem.Challenge.rw_pe0084_01
end Mine
namespace Mine
open PySem PySem.W PyProof.Rows
set_option maxRecDepth 100000
set_option maxHeartbeats 8000000
abbrev PG : Program := PySem.Challenge.rw_pe0084_01.row.prog

abbrev Cl (n : Nat) (f : Addr) (vs : List Value) (R : Tok → Value) : Prop :=
  ∀ (w : World) (mean : ExcName → Option Value) (mg mb : Str → Option Value) (news : List (Addr × Obj))
    (dp un : Nat) (gd : Option (List Code)) (cn : Str) (cs : Scope) (a : Addr) (ccd : Value) (cl : List (Str × Addr)) (outer : List Env) (A₀ : Around) (base h₀ : Heap) (L : Addr) (m : Str → Option Value) (s : Shared) (Q E : Value → Shared → Prop),
    Below A₀ base outer h₀ → Fr h₀ L s.heap m → (hd.heap_39 w.params).In h₀ → News h₀ L s.heap news → Top hd.view_39 (looseW hd.view_39 []) mean mg mb h₀ → cs.kind = .function →
    dp + n < recursionLimit → un + 10 * n < cLine → (∀ (t : Tok) (h' : Heap) (tk' : Nat), Fr h₀ L h' m → News h₀ L h' news → Q (R t) { s with heap := h', toks := tk' }) →
      wpAny (model PySem.Challenge.rw_pe0084_01.row.prog w) (ktrTop dp un gd cn cs L a ccd cl outer) (call (.ref f) vs) Q E s




end Mine
namespace Mine
open PySem PySem.W PyProof.Rows
set_option maxRecDepth 100000
/-- as Cl, the ledger given -/
abbrev ClW (n : Nat) (news : List (Addr × Obj)) (f : Addr) (vs : List Value) (R : Tok → Value) : Prop :=
  ∀ (w : World) (mean : ExcName → Option Value) (mg mb : Str → Option Value)
    (dp un : Nat) (gd : Option (List Code)) (cn : Str) (cs : Scope) (a : Addr) (ccd : Value) (cl : List (Str × Addr)) (outer : List Env) (A₀ : Around) (base h₀ : Heap) (L : Addr) (m : Str → Option Value) (s : Shared) (Q E : Value → Shared → Prop),
    Below A₀ base outer h₀ → Fr h₀ L s.heap m → (hd.heap_39 w.params).In h₀ → News h₀ L s.heap news → Top hd.view_39 (looseW hd.view_39 []) mean mg mb h₀ → cs.kind = .function →
    dp + n < recursionLimit → un + 10 * n < cLine → (∀ (t : Tok) (h' : Heap) (tk' : Nat), Fr h₀ L h' m → News h₀ L h' news → Q (R t) { s with heap := h', toks := tk' }) →
      wpAny (model PySem.Challenge.rw_pe0084_01.row.prog w) (ktrTop dp un gd cn cs L a ccd cl outer) (call (.ref f) vs) Q E s
abbrev tup3 (a : Int) (ta : Tok) (x : Str) (tx : Tok) (b : Int) (tb : Tok) : Obj := { cls := .type "tuple", data := .seq #[.int a ta, .str x tx, .int b tb] }
end Mine
namespace Mine
open PySem PySem.W PyProof.Rows

/-- length of the common head of two lists -/
noncomputable def cpl : List Nat → List Nat → Nat
  | a :: as, b :: bs => if a = b then cpl as bs + 1 else 0
  | _, _ => 0

theorem cpl_le_left : ∀ (a b : List Nat), cpl a b ≤ a.length
  | [], _ => by simp [cpl]
  | _ :: _, [] => by simp [cpl]
  | a :: as, b :: bs => by
    have := cpl_le_left as bs
    unfold cpl
    split <;> simp <;> omega
theorem cpl_le_right : ∀ (a b : List Nat), cpl a b ≤ b.length
  | [], _ => by simp [cpl]
  | _ :: _, [] => by simp [cpl]
  | a :: as, b :: bs => by
    have := cpl_le_right as bs
    unfold cpl
    split <;> simp <;> omega
theorem cpl_lt : ∀ (a b : List Nat) (k : Nat), k ≤ cpl a b → k < a.length → k < b.length → a[k]? = b[k]? → k < cpl a b
  | [], _, _, _, h, _, _ => by simp at h
  | _ :: _, [], _, _, _, h, _ => by simp at h
  | a :: as, b :: bs, 0, _, _, _, h => by
    simp at h
    simp [cpl, h]
  | a :: as, b :: bs, k + 1, h0, h1, h2, h3 => by
    unfold cpl at h0 ⊢
    split at h0
    · rename_i e
      rw [if_pos e]
      have := cpl_lt as bs k (by omega) (by simpa using h1) (by simpa using h2) (by simpa using h3)
      omega
    · omega
theorem cpl_get : ∀ (a b : List Nat) (k : Nat), k < cpl a b → a[k]? = b[k]?
  | [], _, _, h => by simp [cpl] at h
  | _ :: _, [], _, h => by simp [cpl] at h
  | a :: as, b :: bs, 0, h => by
    unfold cpl at h
    split at h
    · rename_i e; simp [e]
    · omega
  | a :: as, b :: bs, k + 1, h => by
    unfold cpl at h
    split at h
    · have := cpl_get as bs k (by omega)
      simpa using this
    · omega

abbrev cs (x : Str) : List Nat := x.cps.toList
theorem cs_length (x : Str) : (cs x).length = x.length := by simp [cs, Str.length]
theorem cs_ext {x y : Str} (h : cs x = cs y) : x = y := by
  cases x; cases y; simp [cs] at h; exact congrArg _ h

theorem from_cs (x : Str) (k : Nat) : cs (Txt.slice x (some (k : Int)) none) = (cs x).drop k := by
  by_cases h : k ≤ x.length
  · rw [slice_from_eq (b := (x.length : Int)) (by omega) (by omega) rfl]
    show (List.take _ (List.drop _ _)) = _
    rw [List.take_of_length_le]
    · simp
    · rw [List.length_drop, cs_length]; omega
  · rw [slice_beyond (by omega)]
    rw [List.drop_eq_nil_of_le (by rw [cs_length]; omega)]
    rfl
theorem to_cs (x : Str) (k : Nat) (h : k ≤ x.length) : cs (Txt.slice x none (some (k : Int))) = (cs x).take k := by
  have := slice_closes_toL (x := x) (j := (k : Int)) (by omega) (by omega)
  rw [eq_of_beq this]
  simp [cs]
theorem toNeg_cs (x : Str) (k : Nat) (h0 : 0 < k) (h : k ≤ x.length) : cs (Txt.slice x none (some (-(k : Int)))) = (cs x).take (x.length - k) := by
  rw [slice_to_neg (by omega), show max 0 ((x.length : Int) + -(k : Int)) = ((x.length - k : Nat) : Int) by omega, to_cs x _ (by omega)]
theorem item_cs (x : Str) (k : Nat) (h : k < x.length) : Txt.item x (k : Int) = ⟨#[(cs x)[k]'(by rw [cs_length]; exact h)]⟩ := by
  have := item_closes (x := x) (i := (k : Int)) ⟨by omega, by omega⟩
  rw [eq_of_beq this]
  simp only [Int.toNat_natCast]
  congr 2
  rw [Array.getD_eq_getD_getElem?]
  have h' : k < x.cps.size := h
  simp [cs, h']
theorem itemNeg_cs (x : Str) (k : Nat) (h : k < x.length) : Txt.item x (-(k : Int) - 1) = ⟨#[(cs x).reverse[k]'(by rw [List.length_reverse, cs_length]; exact h)]⟩ := by
  have := item_closes_neg (x := x) (i := (-(k : Int) - 1)) (j := ((x.length - 1 - k : Nat) : Int)) (by omega) (by omega) (by omega)
  rw [eq_of_beq this]
  simp only [Int.toNat_natCast]
  congr 2
  rw [Array.getD_eq_getD_getElem?]
  have h' : x.length - 1 - k < x.cps.size := by have : x.length = x.cps.size := rfl; omega
  have e : x.length = x.cps.size := rfl
  rw [e] at h'
  simp [cs, e, h']
theorem one_inj {a b : Nat} : ((⟨#[a]⟩ : Str) = ⟨#[b]⟩) ↔ a = b := by simp

section
variable {a b : Str} {k : Nat}
theorem from_len (x : Str) (k : Nat) : (Txt.slice x (some (k : Int)) none).length = x.length - k := by
  rw [← cs_length, from_cs, List.length_drop, cs_length]
theorem pre_go (h : k ≤ cpl (cs a) (cs b)) (h1 : ((Txt.slice a (some (k : Int)) none).length : Int) ≠ 0) (h2 : ((Txt.slice b (some (k : Int)) none).length : Int) ≠ 0) (h3 : (Txt.item a (k : Int) == Txt.item b (k : Int)) = true) : k < cpl (cs a) (cs b) := by
  rw [from_len] at h1 h2
  have ha : k < a.length := by omega
  have hb : k < b.length := by omega
  rw [item_cs a k ha, item_cs b k hb] at h3
  have h4 := one_inj.mp (eq_of_beq h3)
  refine cpl_lt _ _ _ h (by rw [cs_length]; exact ha) (by rw [cs_length]; exact hb) ?_
  rw [List.getElem?_eq_getElem (by rw [cs_length]; exact ha), List.getElem?_eq_getElem (by rw [cs_length]; exact hb), h4]
theorem pre_sa (h : k ≤ cpl (cs a) (cs b)) (h1 : ((Txt.slice a (some (k : Int)) none).length : Int) = 0) : k = cpl (cs a) (cs b) := by
  rw [from_len] at h1
  have := cpl_le_left (cs a) (cs b)
  rw [cs_length] at this
  omega
theorem pre_sb (h : k ≤ cpl (cs a) (cs b)) (h1 : ((Txt.slice b (some (k : Int)) none).length : Int) = 0) : k = cpl (cs a) (cs b) := by
  rw [from_len] at h1
  have := cpl_le_right (cs a) (cs b)
  rw [cs_length] at this
  omega
theorem pre_ne (h : k ≤ cpl (cs a) (cs b)) (h1 : ((Txt.slice a (some (k : Int)) none).length : Int) ≠ 0) (h2 : ((Txt.slice b (some (k : Int)) none).length : Int) ≠ 0) (h3 : (Txt.item a (k : Int) == Txt.item b (k : Int)) = false) : k = cpl (cs a) (cs b) := by
  rw [from_len] at h1 h2
  have ha : k < a.length := by omega
  have hb : k < b.length := by omega
  rw [item_cs a k ha, item_cs b k hb] at h3
  apply Classical.byContradiction
  intro hne
  have h5 := cpl_get (cs a) (cs b) k (by omega)
  rw [List.getElem?_eq_getElem (by rw [cs_length]; exact ha), List.getElem?_eq_getElem (by rw [cs_length]; exact hb)] at h5
  rw [Option.some.inj h5] at h3
  simp at h3
end

section
variable {a b : Str} {k : Nat}
theorem post_la (h : k ≤ cpl (cs a).reverse (cs b).reverse) : k ≤ a.length := by
  have := cpl_le_left (cs a).reverse (cs b).reverse
  rw [List.length_reverse, cs_length] at this
  omega
theorem post_lb (h : k ≤ cpl (cs a).reverse (cs b).reverse) : k ≤ b.length := by
  have := cpl_le_right (cs a).reverse (cs b).reverse
  rw [List.length_reverse, cs_length] at this
  omega
theorem neg_len (x : Str) (k : Nat) (h0 : 0 < k) (h : k ≤ x.length) : ((Txt.slice x none (some (-(k : Int)))).length : Int) = (x.length : Int) - (k : Int) := by
  rw [← cs_length, toNeg_cs x k h0 h, List.length_take, cs_length]; omega
theorem post_go (h : k ≤ cpl (cs a).reverse (cs b).reverse) (ha : k < a.length) (hb : k < b.length) (h3 : (Txt.item a (-(k : Int) - 1) == Txt.item b (-(k : Int) - 1)) = true) : k < cpl (cs a).reverse (cs b).reverse := by
  rw [itemNeg_cs a k ha, itemNeg_cs b k hb] at h3
  have h4 := one_inj.mp (eq_of_beq h3)
  have ha' : k < (cs a).reverse.length := by rw [List.length_reverse, cs_length]; exact ha
  have hb' : k < (cs b).reverse.length := by rw [List.length_reverse, cs_length]; exact hb
  refine cpl_lt _ _ _ h ha' hb' ?_
  rw [List.getElem?_eq_getElem ha', List.getElem?_eq_getElem hb', h4]
theorem post_ne (h : k ≤ cpl (cs a).reverse (cs b).reverse) (ha : k < a.length) (hb : k < b.length) (h3 : (Txt.item a (-(k : Int) - 1) == Txt.item b (-(k : Int) - 1)) = false) : k = cpl (cs a).reverse (cs b).reverse := by
  rw [itemNeg_cs a k ha, itemNeg_cs b k hb] at h3
  have ha' : k < (cs a).reverse.length := by rw [List.length_reverse, cs_length]; exact ha
  have hb' : k < (cs b).reverse.length := by rw [List.length_reverse, cs_length]; exact hb
  apply Classical.byContradiction
  intro hne
  have h5 := cpl_get (cs a).reverse (cs b).reverse k (by omega)
  rw [List.getElem?_eq_getElem ha', List.getElem?_eq_getElem hb'] at h5
  rw [Option.some.inj h5] at h3
  simp at h3
theorem post_go' {i : Int} (hi : i = -(k : Int) - 1) (h : k ≤ cpl (cs a).reverse (cs b).reverse) (ha : k < a.length) (hb : k < b.length) (h3 : (Txt.item a i == Txt.item b i) = true) : k < cpl (cs a).reverse (cs b).reverse := by
  subst hi; exact post_go h ha hb h3
theorem post_ne' {i : Int} (hi : i = -(k : Int) - 1) (h : k ≤ cpl (cs a).reverse (cs b).reverse) (ha : k < a.length) (hb : k < b.length) (h3 : (Txt.item a i == Txt.item b i) = false) : k = cpl (cs a).reverse (cs b).reverse := by
  subst hi; exact post_ne h ha hb h3
theorem post_sa (h : k ≤ cpl (cs a).reverse (cs b).reverse) (ha : (a.length : Int) ≤ k) : k = cpl (cs a).reverse (cs b).reverse := by
  have := cpl_le_left (cs a).reverse (cs b).reverse
  rw [List.length_reverse, cs_length] at this
  omega
theorem post_sb (h : k ≤ cpl (cs a).reverse (cs b).reverse) (ha : (b.length : Int) ≤ k) : k = cpl (cs a).reverse (cs b).reverse := by
  have := cpl_le_right (cs a).reverse (cs b).reverse
  rw [List.length_reverse, cs_length] at this
  omega
end

/-- a text without its last k signs -/
noncomputable def cutS (x : Str) (k : Nat) : Str := ⟨((cs x).take (x.length - k)).toArray⟩
theorem cutS_cs (x : Str) (k : Nat) : cs (cutS x k) = (cs x).take (x.length - k) := rfl
theorem cutS_len (x : Str) (k : Nat) : (cutS x k).length = x.length - k := by
  rw [← cs_length, cutS_cs, List.length_take, cs_length]; omega
theorem cutS_zero (x : Str) : cutS x 0 = x := by
  apply cs_ext
  rw [cutS_cs, List.take_of_length_le (by rw [cs_length]; omega)]
theorem cutS_neg (x : Str) (k : Nat) (h0 : 0 < k) (h : k ≤ x.length) : Txt.slice x none (some (-(k : Int))) = cutS x k := by
  apply cs_ext
  rw [toNeg_cs x k h0 h, cutS_cs]
end Mine
namespace Mine
open PySem PySem.W PyProof.Rows
noncomputable def subst (a b : Str) : Int := if a = b then 0 else if Txt.lower a = Txt.lower b then 1 else 2

/-- one cell of a row: distance, result, minimum, row -/
noncomputable def rowStep (bc a : Str) (st : Int × Int × Int × List Int) (i : Int) : Int × Int × Int × List Int :=
  let sub := st.1 + subst bc (Txt.item a i)
  let dist := st.2.2.2.getD i.toNat 0
  let res := if sub < (if dist < st.2.1 then dist else st.2.1) + 2 then sub else (if dist < st.2.1 then dist else st.2.1) + 2
  (dist, res, (if res < st.2.2.1 then res else st.2.2.1), st.2.2.2.set i.toNat res)
noncomputable def inner (bc a : Str) (j : Int) (row : List Int) : Nat → Int × Int × Int × List Int
  | 0 => (j * 2, j * 2, 9223372036854775807, row)
  | i + 1 => rowStep bc a (inner bc a j row i) (i : Int)
/-- result, the greatest of the rows' least, row -/
noncomputable def outer (a b : Str) (row : List Int) : Nat → Int × Int × List Int
  | 0 => (0, 0, row)
  | j + 1 =>
    let st := outer a b row j
    let r := inner (Txt.item b (j : Int)) a (j : Int) st.2.2 a.length
    (r.2.1, max st.2.1 r.2.2.1, r.2.2.2)
noncomputable def row0 (n : Nat) : List Int := (List.range n).map fun (i : Nat) => 2 + 2 * (i : Int)
noncomputable def lev3 (a b : Str) (m : Int) : Int :=
  if m < ((b.length : Int) - (a.length : Int)) * 2 then m + 1
  else if m < (outer a b (row0 a.length) b.length).2.1 then m + 1 else (outer a b (row0 a.length) b.length).1
noncomputable def lev2 (a b : Str) (m : Int) : Int :=
  if (a.length : Int) = 0 then 2 * ((a.length : Int) + (b.length : Int)) else if (b.length : Int) = 0 then 2 * ((a.length : Int) + (b.length : Int))
  else if 40 < (a.length : Int) then m + 1 else if 40 < (b.length : Int) then m + 1
  else lev3 (if (b.length : Int) < (a.length : Int) then b else a) (if (b.length : Int) < (a.length : Int) then a else b) m
noncomputable def pre1 (a b : Str) (x : Str) : Str := Txt.slice x (some (cpl (cs a) (cs b) : Int)) none
noncomputable def lev (a b : Str) (m : Int) : Int :=
  if a = b then 0
  else lev2 (cutS (pre1 a b a) (cpl (cs (pre1 a b a)).reverse (cs (pre1 a b b)).reverse)) (cutS (pre1 a b b) (cpl (cs (pre1 a b a)).reverse (cs (pre1 a b b)).reverse)) m

theorem outer_mono (a b : Str) (row : List Int) (i : Nat) : ∀ j, (outer a b row i).2.1 ≤ (outer a b row (i + j)).2.1
  | 0 => Int.le_refl _
  | j + 1 => by
    have := outer_mono a b row i j
    exact Int.le_trans this (Int.le_max_left _ _)
theorem inner_len (bc a : Str) (j : Int) (row : List Int) : ∀ i, (inner bc a j row i).2.2.2.length = row.length
  | 0 => rfl
  | i + 1 => by
    show (List.set _ _ _).length = _
    rw [List.length_set]; exact inner_len bc a j row i
theorem outer_len (a b : Str) (row : List Int) : ∀ i, (outer a b row i).2.2.length = row.length
  | 0 => rfl
  | i + 1 => by
    show (inner _ _ _ _ _).2.2.2.length = _
    rw [inner_len]; exact outer_len a b row i
end Mine
namespace Mine
open PySem PySem.W PyProof.Rows
/-- what parse257 reads: two quotes give one, a single one ends -/
noncomputable def pq : List Nat → List Nat
  | [] => []
  | [c] => if c = 34 then [] else [c]
  | c :: d :: r => if c = 34 then (if d = 34 then 34 :: pq r else []) else c :: pq (d :: r)
noncomputable def pqS (x : Str) : Str := ⟨(pq ((cs x).drop 5)).toArray⟩
def PInv (x : Str) (dir : Str) (i : Int) : Prop := ∃ j : Nat, i = (j : Int) ∧ 5 ≤ j ∧ j ≤ x.length ∧ dir.length ≤ j ∧ cs dir ++ pq ((cs x).drop j) = pq ((cs x).drop 5)
theorem cs_append (x y : Str) : cs (x ++ y) = cs x ++ cs y := by
  show (x ++ y).cps.toList = _
  rw [Str.cps_append]; simp [cs]
theorem pinv_start (x : Str) (h : 5 ≤ x.length) : PInv x (Str.ofString "") 5 :=
  ⟨5, rfl, Nat.le_refl _, h, by decide +kernel, by
    rw [show cs (Str.ofString "") = [] by decide +kernel]; rfl⟩
theorem drop_item {x : Str} {j : Nat} (h : j < x.length) : (cs x).drop j = ((cs x)[j]'(by rw [cs_length]; exact h)) :: (cs x).drop (j + 1) := by
  rw [List.drop_eq_getElem_cons (by rw [cs_length]; exact h)]
theorem quote_is : Str.ofString "\"" = ⟨#[34]⟩ := by decide +kernel
theorem pq_plain {c : Nat} {r : List Nat} (h : c ≠ 34) : pq (c :: r) = c :: pq r := by
  cases r with
  | nil => simp [pq, h]
  | cons d r => simp [pq, h]
theorem pinv_plain {x dir : Str} {i : Int} (h : PInv x dir i) (h1 : i < (x.length : Int)) (hc : (Txt.item x i == Str.ofString "\"") = false) : PInv x (dir ++ Txt.item x i) (i + 1) := by
  obtain ⟨j, rfl, h5, hj, hl, e⟩ := h
  have hj' : j < x.length := by omega
  rw [item_cs x j hj', quote_is] at hc
  have hne : (cs x)[j]'(by rw [cs_length]; exact hj') ≠ 34 := by
    intro e; rw [e] at hc; simp at hc
  refine ⟨j + 1, by omega, by omega, by omega, ?_, ?_⟩
  · rw [item_cs x j hj', Str.length_append]; show _ + 1 ≤ _; omega
  · rw [item_cs x j hj', cs_append, ← e, drop_item hj', pq_plain hne, List.append_assoc]; rfl
theorem pinv_pair {x dir : Str} {i : Int} (h : PInv x dir i) (h1 : i + 1 < (x.length : Int)) (hc : (Txt.item x i == Str.ofString "\"") = true) (hd : (Txt.item x (i + 1) == Str.ofString "\"") = true) : PInv x (dir ++ Txt.item x i) (i + 1 + 1) := by
  obtain ⟨j, rfl, h5, hj, hl, e⟩ := h
  have hj' : j < x.length := by omega
  have hj2 : j + 1 < x.length := by omega
  rw [item_cs x j hj', quote_is] at hc
  rw [show (j : Int) + 1 = ((j + 1 : Nat) : Int) by omega, item_cs x (j + 1) hj2, quote_is] at hd
  have h1 := one_inj.mp (eq_of_beq hc)
  have h2 := one_inj.mp (eq_of_beq hd)
  refine ⟨j + 2, by omega, by omega, by omega, ?_, ?_⟩
  · rw [item_cs x j hj', Str.length_append]; show _ + 1 ≤ _; omega
  · rw [item_cs x j hj', cs_append, ← e, drop_item hj', drop_item hj2, h1, h2, List.append_assoc]
    simp [pq, cs]
theorem pinv_end {x dir : Str} {i : Int} (h : PInv x dir i) (h1 : ¬ i < (x.length : Int)) : dir = pqS x := by
  obtain ⟨j, rfl, h5, hj, hl, e⟩ := h
  apply cs_ext
  rw [List.drop_eq_nil_of_le (by rw [cs_length]; omega)] at e
  show cs dir = pq ((cs x).drop 5)
  rw [← e]; simp [pq]
theorem pinv_break1 {x dir : Str} {i : Int} (h : PInv x dir i) (h1 : i < (x.length : Int)) (hc : (Txt.item x i == Str.ofString "\"") = true) (h2 : (x.length : Int) ≤ i + 1) : dir = pqS x := by
  obtain ⟨j, rfl, h5, hj, hl, e⟩ := h
  have hj' : j < x.length := by omega
  rw [item_cs x j hj', quote_is] at hc
  have h1 := one_inj.mp (eq_of_beq hc)
  apply cs_ext
  rw [drop_item hj', h1, List.drop_eq_nil_of_le (by rw [cs_length]; omega)] at e
  show cs dir = pq ((cs x).drop 5)
  rw [← e]; simp [pq]
theorem pinv_break2 {x dir : Str} {i : Int} (h : PInv x dir i) (h1 : i + 1 < (x.length : Int)) (hc : (Txt.item x i == Str.ofString "\"") = true) (hd : (Txt.item x (i + 1) == Str.ofString "\"") = false) : dir = pqS x := by
  obtain ⟨j, rfl, h5, hj, hl, e⟩ := h
  have hj' : j < x.length := by omega
  have hj2 : j + 1 < x.length := by omega
  rw [item_cs x j hj', quote_is] at hc
  rw [show (j : Int) + 1 = ((j + 1 : Nat) : Int) by omega, item_cs x (j + 1) hj2, quote_is] at hd
  have h1 := one_inj.mp (eq_of_beq hc)
  have hne : (cs x)[j + 1]'(by rw [cs_length]; exact hj2) ≠ 34 := by
    intro e; rw [e] at hd; simp at hd
  apply cs_ext
  rw [drop_item hj', drop_item hj2, h1] at e
  show cs dir = pq ((cs x).drop 5)
  rw [← e, pq, if_pos rfl, if_neg hne, List.append_nil]
end Mine
namespace Mine
open PySem PySem.W PyProof.Rows
noncomputable def textS (a : Int) (x : Str) (b : Int) : Str := Txt.mul (Str.ofString "\"") a ++ x ++ Txt.mul (Str.ofString "\"") b
noncomputable def hA (a : Int) : Int := a.fdiv 2
noncomputable def hX (a : Int) (x : Str) : Str := if a.fmod 2 = 1 then Str.ofString "" else x
noncomputable def hB (a b : Int) : Int := if a.fmod 2 = 1 then 0 else b.fdiv 2
noncomputable def farL (a b c d price : Int) : Int :=
  if (if a + b - (c + d) < 0 then -(a + b - (c + d)) else a + b - (c + d)) = 0 then
    (if (2 * if a + b - (c + d) < 0 then -(a + b - (c + d)) else a + b - (c + d)) + 4 < 2 * ((if a - c < 0 then -(a - c) else a - c) + if b - d < 0 then -(b - d) else b - d) + price then (2 * if a + b - (c + d) < 0 then -(a + b - (c + d)) else a + b - (c + d)) + 4 else 2 * ((if a - c < 0 then -(a - c) else a - c) + if b - d < 0 then -(b - d) else b - d) + price)
  else (if (2 * if a + b - (c + d) < 0 then -(a + b - (c + d)) else a + b - (c + d)) + 2 < 2 * ((if a - c < 0 then -(a - c) else a - c) + if b - d < 0 then -(b - d) else b - d) + price then (2 * if a + b - (c + d) < 0 then -(a + b - (c + d)) else a + b - (c + d)) + 2 else 2 * ((if a - c < 0 then -(a - c) else a - c) + if b - d < 0 then -(b - d) else b - d) + price)
noncomputable def farE (a b c d n k : Int) : Int := 2 * ((if c + d + k > a + b + n then c + d + k else a + b + n) - if c + d < a + b then c + d else a + b)
noncomputable def far (a : Int) (x : Str) (b c : Int) (y : Str) (d : Int) : Int :=
  bif x == Str.ofString "" then farE a b c d (x.length : Int) (y.length : Int)
  else bif y == Str.ofString "" then farE a b c d (x.length : Int) (y.length : Int)
  else farL a b c d (bif x != y then (bif (Builtin.Str.occurrences (x ++ y) (Str.ofString "y") 0 (x ++ y).length 1).isEmpty then 1 else 2) else 0)
end Mine
namespace Mine
open PySem PySem.W PyProof.Rows PySem.Spec
/-- a while over one int name: the two ends of a turn, as own words so that the walk stops there -/
structure WBody (h₀ : Heap) (L : Addr) (s : Shared) (x : Str) (m₀ : Str → Option Value) (news : List (Addr × Obj)) (v : Int) (fl : Flow) (s₃ : Shared) : Prop where
  flow : fl = .next
  rest : ∃ h' tk' t', s₃ = { s with heap := h', toks := tk' } ∧ Fr h₀ L h' (fun y => if y = x then some (.int v t') else m₀ y) ∧ News h₀ L h' news
structure WStop (h₀ : Heap) (L : Addr) (s : Shared) (x : Str) (m₀ : Str → Option Value) (news : List (Addr × Obj)) (P : Prop) (v : Int) (s₃ : Shared) : Prop where
  here : P
  rest : ∃ h' tk' t', s₃ = { s with heap := h', toks := tk' } ∧ Fr h₀ L h' (fun y => if y = x then some (.int v t') else m₀ y) ∧ News h₀ L h' news
structure WGo (P W : Prop) : Prop where
  here : P
  on : W
theorem ov {x : Str} {u v : Option Value} {m : Str → Option Value} : (fun y => if y = x then u else if y = x then v else m y) = fun y => if y = x then u else m y := by
  funext y
  by_cases h : y = x <;> simp [h]
theorem WBody.of2 {h₀ : Heap} {L : Addr} {s : Shared} {x : Str} {m₀ : Str → Option Value} {news : List (Addr × Obj)} {v v' : Int} {u : Option Value} {h' : Heap} {tk' : Nat} {t' : Tok} (F : Fr h₀ L h' (fun y => if y = x then some (.int v' t') else if y = x then u else m₀ y)) (N : News h₀ L h' news) (e : v' = v) : WBody h₀ L s x m₀ news v .next { s with heap := h', toks := tk' } := by
  rw [ov, e] at F
  exact ⟨rfl, h', tk', t', rfl, F, N⟩
theorem WStop.of1 {h₀ : Heap} {L : Addr} {s : Shared} {x : Str} {m₀ : Str → Option Value} {news : List (Addr × Obj)} {P : Prop} {v : Int} {h' : Heap} {tk' : Nat} {t' : Tok} (p : P) (F : Fr h₀ L h' (fun y => if y = x then some (.int v t') else m₀ y)) (N : News h₀ L h' news) : WStop h₀ L s x m₀ news P v { s with heap := h', toks := tk' } :=
  ⟨p, h', tk', t', rfl, F, N⟩
theorem while_int {prog : Program} {w : World} {A : Around} {E : Value → Shared → Prop} {s : Shared} {env : Env} {h₀ : Heap} {L : Addr} {test : Expr} {body : List Stmt} {pos : Pos} {m₀ : Str → Option Value} {news : List (Addr × Obj)} {Q : Flow → Shared → Prop} {x : Str} {t₀ : Tok}
    (f : Nat → Int) (n : Nat) (F : Fr h₀ L s.heap m₀) (N : News h₀ L s.heap news) (h0 : m₀ x = some (.int (f 0) t₀))
    (turn : ∀ k t h tk, k ≤ n → Fr h₀ L h (fun y => if y = x then some (.int (f k) t) else m₀ y) → News h₀ L h news →
      wpAny (model prog w) A (isTrue test env (eval test env)) (fun b s₂ =>
        if b = true then WGo (k < n) (wpAny (model prog w) A (execs body env) (WBody h₀ L s x m₀ news (f (k + 1))) E s₂)
        else WStop h₀ L s x m₀ news (k = n) (f k) s₂) E { s with heap := h, toks := tk })
    (done : ∀ t h tk, Fr h₀ L h (fun y => if y = x then some (.int (f n) t) else m₀ y) → News h₀ L h news → Q .next { s with heap := h, toks := tk })
    (hE : PassesOwn (model prog w) A env E := by passes_own) :
    wpAny (model prog w) A (exec (.While test body [] pos) env) Q E s := by
  refine While_inv2 (fun i m nx => ∃ k t, k ≤ n ∧ i = n - k ∧ nx = news ∧ m = fun y => if y = x then some (.int (f k) t) else m₀ y) (n₀ := n) F N ⟨0, t₀, by omega, by omega, rfl, ?_⟩ ?_ hE
  · funext y
    by_cases e : y = x
    · rw [if_pos e, e, h0]
    · rw [if_neg e]
  · rintro i m₁ nx h tk F₁ N₁ ⟨k, t, hk, rfl, rfl, rfl⟩
    refine wpAny_mono (turn k t h tk hk F₁ N₁) (fun b s₂ p => ?_) fun _ _ e => e
    cases b with
    | false =>
      simp only [Bool.false_eq_true, if_false] at p ⊢
      obtain ⟨e, h', tk', t', rfl, F', N'⟩ := p
      subst e
      exact done t' h' tk' F' N'
    | true =>
      simp only [if_true] at p ⊢
      obtain ⟨hlt, p⟩ := p
      refine wpAny_mono p (fun fl s₃ q => ?_) fun _ _ e => e
      obtain ⟨rfl, h', tk', t', rfl, F', N'⟩ := q
      exact ⟨h', tk', _, _, n - (k + 1), rfl, F', N', by omega, k + 1, t', by omega, rfl, rfl, rfl⟩

theorem gen_toks {α : Type} {M : Model} {A : Around} {t : Sem α} {Q : α → Shared → Prop} {E : Value → Shared → Prop} {h : Heap} {g : Array GenState} {d : Drawn} {os : OsState} {tk : Nat} (H : ∀ tk, wpAny M A t Q E ⟨h, g, d, tk, os⟩) : wpAny M A t Q E ⟨h, g, d, tk, os⟩ := H tk
theorem slice_nn (x : Str) : Txt.slice x none none = x := by
  unfold Txt.slice
  rw [if_pos]
  simp [Builtin.Str.strSliceIndices, sliceRange]
  omega
section
variable {prog : Program} {w : World} {A : Around} {E : Value → Shared → Prop} {s : Shared} {value slice : Expr} {x : Str} {t : Tok} {h₀ : Heap} {L : Addr} {m : Str → Option Value} {news : List (Addr × Obj)} {Q : Value → Shared → Prop}
theorem sl_nn (hF : Fr h₀ L s.heap m) (hN : News h₀ L s.heap news) (h : ∀ h' t' k, Fr h₀ L h' m → News h₀ L h' news → Q (.str x t') { s with heap := h', toks := k })
    (hs : subscripted slice false (.str x t) (.ref s.heap.objs.size) = operate [.ref s.heap.objs.size, .str x t] (getItem (.str x t) (.ref s.heap.objs.size)) := by with_unfolding_all rfl)
    (ht : ∀ r, letTemporaryGo value (.str x t) r = pure () := by intro _; with_unfolding_all rfl) (hsz : x.length ≤ sizeLine := by size_fits) :
    wpAny (model prog w) A (subscriptTail value slice (.str x t) (.ref s.heap.objs.size)) Q E { s with heap := s.heap.push { cls := .type "slice", data := .fields #[.none, .none, .none] } } :=
  slice_strN_nn hF hN (by rw [slice_nn]; exact h) hs ht hsz
end

/-- the end of a piece that stores one name -/
structure Sets (h₀ : Heap) (L : Addr) (s : Shared) (x : Str) (m₀ : Str → Option Value) (news : List (Addr × Obj)) (R : Tok → Value) (fl : Flow) (s₃ : Shared) : Prop where
  flow : fl = .next
  rest : ∃ h' tk' t', s₃ = { s with heap := h', toks := tk' } ∧ Fr h₀ L h' (fun y => if y = x then some (R t') else m₀ y) ∧ News h₀ L h' news
theorem Sets.of1 {h₀ : Heap} {L : Addr} {s : Shared} {x : Str} {m₀ : Str → Option Value} {news : List (Addr × Obj)} {R : Tok → Value} {v : Value} {h' : Heap} {tk' : Nat} {t' : Tok} (F : Fr h₀ L h' (fun y => if y = x then some v else m₀ y)) (N : News h₀ L h' news) (e : v = R t') : Sets h₀ L s x m₀ news R .next { s with heap := h', toks := tk' } := by
  subst e
  exact ⟨rfl, h', tk', t', rfl, F, N⟩
theorem Sets.ofS {h₀ : Heap} {L : Addr} {s : Shared} {x : Str} {m₀ : Str → Option Value} {news : List (Addr × Obj)} {X v : Str} {h' : Heap} {tk' : Nat} {t' : Tok} (F : Fr h₀ L h' (fun y => if y = x then some (.str v t') else m₀ y)) (N : News h₀ L h' news) (e : v = X) : Sets h₀ L s x m₀ news (fun t => .str X t) .next { s with heap := h', toks := tk' } := by
  subst e
  exact ⟨rfl, h', tk', t', rfl, F, N⟩
theorem sets_cut {M : Model} {A : Around} {t : Sem Flow} {E : Value → Shared → Prop} {Q : Flow → Shared → Prop} {s : Shared} {h₀ : Heap} {L : Addr} {x : Str} {m₀ : Str → Option Value} {news : List (Addr × Obj)} (R : Tok → Value)
    (F : Fr h₀ L s.heap m₀) (N : News h₀ L s.heap news)
    (H : wpAny M A t (Sets h₀ L s x m₀ news R) E s)
    (K : ∀ h' tk' t', Fr h₀ L h' (fun y => if y = x then some (R t') else m₀ y) → News h₀ L h' news → Q .next { s with heap := h', toks := tk' }) : wpAny M A t Q E s :=
  wpAny_mono H (fun f s₃ p => by obtain ⟨rfl, h', tk', t', rfl, F, N⟩ := p; exact K h' tk' t' F N) (fun _ _ e => e)
/-- the end of a piece that stores two names -/
structure Sets2 (h₀ : Heap) (L : Addr) (s : Shared) (x x' : Str) (m₀ : Str → Option Value) (news : List (Addr × Obj)) (R R' : Tok → Value) (fl : Flow) (s₃ : Shared) : Prop where
  flow : fl = .next
  rest : ∃ h' tk' t' u', s₃ = { s with heap := h', toks := tk' } ∧ Fr h₀ L h' (fun y => if y = x then some (R t') else if y = x' then some (R' u') else m₀ y) ∧ News h₀ L h' news
theorem Sets2.of {h₀ : Heap} {L : Addr} {s : Shared} {x x' : Str} {m m₀ : Str → Option Value} {news : List (Addr × Obj)} {R R' : Tok → Value} {h' : Heap} {tk' : Nat} {t' u' : Tok} (F : Fr h₀ L h' m) (N : News h₀ L h' news) (e : m = fun y => if y = x then some (R t') else if y = x' then some (R' u') else m₀ y) : Sets2 h₀ L s x x' m₀ news R R' .next { s with heap := h', toks := tk' } := by
  subst e
  exact ⟨rfl, h', tk', t', u', rfl, F, N⟩
theorem Sets2.swap {h₀ : Heap} {L : Addr} {s : Shared} {x x' : Str} {m₀ : Str → Option Value} {news : List (Addr × Obj)} {X X' v v' : Str} {h' : Heap} {tk' : Nat} {t' u' : Tok} (F : Fr h₀ L h' (fun y => if y = x then some (.str v t') else if y = x' then some (.str v' u') else m₀ y)) (N : News h₀ L h' news) (e : v = X) (e' : v' = X') : Sets2 h₀ L s x x' m₀ news (fun t => .str X t) (fun t => .str X' t) .next { s with heap := h', toks := tk' } := by
  subst e e'
  exact ⟨rfl, h', tk', t', u', rfl, F, N⟩
theorem ov2' {x x' : Str} {u v : Option Value} {m : Str → Option Value} (e : m x = u) (e' : m x' = v) : m = fun y => if y = x then u else if y = x' then v else m y := by
  funext y
  by_cases h : y = x
  · simp [h, e]
  · by_cases h' : y = x'
    · rw [if_neg h, if_pos h', h', e']
    · simp [h, h']
theorem Sets2.stay {h₀ : Heap} {L : Addr} {s : Shared} {x x' : Str} {m₀ : Str → Option Value} {news : List (Addr × Obj)} {X X' v v' : Str} {h' : Heap} {tk' : Nat} {t' u' : Tok} (F : Fr h₀ L h' m₀) (N : News h₀ L h' news) (e : m₀ x = some (.str v t')) (e' : m₀ x' = some (.str v' u')) (hv : v = X) (hv' : v' = X') : Sets2 h₀ L s x x' m₀ news (fun t => .str X t) (fun t => .str X' t) .next { s with heap := h', toks := tk' } := by
  subst hv hv'
  rw [ov2' e e'] at F
  exact ⟨rfl, h', tk', t', u', rfl, F, N⟩
theorem sets2_cut {M : Model} {A : Around} {t : Sem Flow} {E : Value → Shared → Prop} {Q : Flow → Shared → Prop} {s : Shared} {h₀ : Heap} {L : Addr} {x x' : Str} {m₀ : Str → Option Value} {news : List (Addr × Obj)} (R R' : Tok → Value)
    (F : Fr h₀ L s.heap m₀) (N : News h₀ L s.heap news)
    (H : wpAny M A t (Sets2 h₀ L s x x' m₀ news R R') E s)
    (K : ∀ h' tk' t' u', Fr h₀ L h' (fun y => if y = x then some (R t') else if y = x' then some (R' u') else m₀ y) → News h₀ L h' news → Q .next { s with heap := h', toks := tk' }) : wpAny M A t Q E s :=
  wpAny_mono H (fun f s₃ p => by obtain ⟨rfl, h', tk', t', u', rfl, F, N⟩ := p; exact K h' tk' t' u' F N) (fun _ _ e => e)
theorem ov2 {x x' : Str} {u v u' v' : Option Value} {m : Str → Option Value} : (fun y => if y = x then u else if y = x' then v else if y = x then u' else if y = x' then v' else m y) = fun y => if y = x then u else if y = x' then v else m y := by
  funext y
  by_cases h : y = x <;> by_cases h' : y = x' <;> simp [h, h']
theorem kst1 {m : Str → Option Value} {x : Str} {v : Value} (h : m x = some v) : ∀ p ∈ [(x, v)], m p.1 = some p.2 := by
  intro p hp
  rw [List.mem_singleton.mp hp]; exact h
theorem kst3 {m : Str → Option Value} {x y z : Str} {u v w : Value} (h1 : m x = some u) (h2 : m y = some v) (h3 : m z = some w) : ∀ p ∈ [(x, u), (y, v), (z, w)], m p.1 = some p.2 := by
  intro p hp
  simp only [List.mem_cons, List.not_mem_nil, or_false] at hp
  rcases hp with rfl | rfl | rfl
  · exact h1
  · exact h2
  · exact h3
theorem set_gen {h₀ : Heap} {L : Addr} {h : Heap} {m₀ : Str → Option Value} {y : Str} {M : Model} {A : Around} {E : Value → Shared → Prop} {s : Shared} {D : Addr} {k : Int} {t : Tok} {Q : Unit → Shared → Prop} {x : Int} {u : Tok}
    (F : Fr h₀ L h (fun z => if z = y then some (.int x u) else m₀ z)) (H : ∀ x' u', x' = x → Fr h₀ L h (fun z => if z = y then some (.int x' u') else m₀ z) → wpAny M A (setItem (.ref D) (.int k t) (.int x' u')) Q E s) :
    wpAny M A (setItem (.ref D) (.int k t) (.int x u)) Q E s := H x u rfl F
theorem kstB_skip {rest : Str → Option Value} {z : Str} : ∀ {ps : List (Str × Value)}, (∀ p ∈ ps, z ≠ p.1) → kstB rest ps z = rest z
  | [], _ => rfl
  | p :: r, h => by
    show (if z = p.1 then some p.2 else kstB rest r z) = rest z
    rw [if_neg (h p (.head _))]
    exact kstB_skip fun q hq => h q (.tail _ hq)
end Mine
namespace Mine
open PySem PySem.W PyProof.Rows PySem.Spec
set_option maxRecDepth 100000
theorem ints_of_get : ∀ {us : List Value} {ns : List Int}, us.length = ns.length → (∀ (j : Nat) v, us[j]? = some v → ∃ t, v = .int (ns.getD j 0) t) → IntsAre us ns
  | [], [], _, _ => .nil
  | [], _ :: _, e, _ => by simp at e
  | _ :: _, [], e, _ => by simp at e
  | v :: us, n :: ns, e, h => by
    obtain ⟨t, ht⟩ := h 0 v rfl
    have hv : v = .int n t := by simpa using ht
    subst hv
    refine IntsAre.cons _ _ (ints_of_get (by simpa using e) fun j v hj => ?_)
    obtain ⟨t', ht'⟩ := h (j + 1) v (by simpa using hj)
    exact ⟨t', by simpa using ht'⟩
theorem row0_len (n : Nat) : (row0 n).length = n := by simp [row0]
theorem row0_get (n j : Nat) (h : j < n) : (row0 n).getD j 0 = 2 + 2 * (j : Int) := by
  unfold row0
  rw [List.getD_eq_getElem?_getD, List.getElem?_map, List.getElem?_range h]
  rfl
theorem size2 (n : Nat) : Builtin.Range.rangeSize 2 (2 * ((n : Int) + 1)) 2 = (n : Int) := by
  unfold Builtin.Range.rangeSize
  simp only [show (2 : Int) > 0 by decide, if_true]
  split <;> omega
theorem fitsL {i : Int} (h1 : -1000000 ≤ i) (h2 : i ≤ 1000000) : Builtin.Range.rangeFitsLong i = true := by
  unfold Builtin.Range.rangeFitsLong
  rw [Bool.and_eq_true, decide_eq_true_eq, decide_eq_true_eq]
  omega
theorem small2 (n : Nat) (h : n ≤ 1000) : Builtin.Range.small 2 (2 * ((n : Int) + 1)) 2 = true := by
  unfold Builtin.Range.small
  rw [size2, fitsL (i := 2) (by omega) (by omega), fitsL (i := 2 * ((n : Int) + 1)) (by omega) (by omega), fitsL (i := (n : Int)) (by omega) (by omega), if_pos (by decide), fitsL (i := 2 * ((n : Int) + 1) + (2 - 1)) (by omega) (by omega)]
  simp only [Bool.or_true, Bool.and_true]
theorem list_range2 {prog : Program} {w : World} {A : Around} {E : Value → Shared → Prop} {s : Shared} {h₀ : Heap} {L r : Addr} {m : Str → Option Value} {news : List (Addr × Obj)} {t₀ u₀ v₀ : Tok} {n : Nat} {Q : Value → Shared → Prop}
    (hh : A.handled = none) (F : Fr h₀ L s.heap m) (N : News h₀ L s.heap news) (hr : IsRange s.heap r 2 (2 * ((n : Int) + 1)) 2 t₀ u₀ v₀) (hz : n ≤ 1000)
    (h : ∀ D us c h' tk, Fr h₀ L h' m → News h₀ L h' ((D, listOf (List.toArray us) c) :: news) → (∀ p ∈ news, p.1 < D) → IntsAre us (row0 n) → Q (.ref D) { s with heap := h', toks := tk }) :
    wpAny (model prog w) A (call (.type "list") [.ref r]) Q E s := by
  refine call_list_range hh hr (small2 n hz) (size2 n) (by omega) fun h' tk acc c hk hD hI => ?_
  have hD' : h'.get? s.heap.objs.size = some (listOf (List.toArray acc.toList) c) := by
    rw [Array.toArray_toList]
    exact hD
  refine h _ acc.toList c h' tk (F.keeps hk) (news_pushed F N hk hD' rfl) (fun p hp => Heap.lt_size (N p hp).1) (ints_of_get (by rw [Array.length_toList, row0_len]; exact hI.1) fun j v hj => ?_)
  have hj' : acc[j]? = some v := by rw [← hj, Array.getElem?_toList]
  obtain ⟨t, ht⟩ := hI.2 j v hj'
  have hjn : j < n := by
    have := (Array.getElem?_eq_some_iff.mp hj').1
    rw [hI.1] at this; exact this
  exact ⟨t, by rw [row0_get n j hjn, ht]; congr 1; omega⟩
end Mine
namespace Mine
open PySem PySem.W PyProof.Rows
set_option maxRecDepth 100000
set_option maxHeartbeats 8000000
theorem sub_c (a b : Str) (ta tb : Tok) (ha : a.length ≤ 100) (hb : b.length ≤ 100) : Cl 2 21 [.str a ta, .str b tb] (fun t => .int (subst a b) t) := by
  unfold Cl
  k_fill
  w_on
  intro w mean mg mb news dp un gd cn cs ad ccd cl outer A₀ base h₀ L m s Q E hB hF hK hN hT hcs hd hu hret
  refine wpAny_call ?_
  k_dflt cell_enter
  k_steps
  all_goals (refine cb_retI (Q := Q) hret ?_ (by assumption) (by assumption); simp_all [subst])
end Mine
namespace Mine
open PySem PySem.W PyProof.Rows
set_option maxRecDepth 100000
set_option maxHeartbeats 1000000
local macro_rules | `(tactic| walk_at "subscriptTail Name Slice str ref") => `(tactic| ((with_reducible show wpAny _ _ (subscriptTail _ (Expr.Slice none (some _) none _) _ _) _ _ (Shared.mk (Heap.push _ (Obj.mk _ _ (Data.fields #[Value.none, Value.none, Value.none]) _)) _ _ _ _)); (with_reducible rename Fr _ _ _ _ => F'); (with_reducible rename News _ _ _ _ => N'); (refine sl_nn (hsz := ?hsz) (s := ⟨_, _, _, _, _⟩) F' N' ?_); (case hsz => size_fits); intro _ _ _ _ _))
local macro_rules | `(tactic| walk_at "call ref") => `(tactic| ((with_reducible show wpAny _ _ (call (Value.ref 21) [Value.str _ _, Value.str _ _]) _ _ _); k_dflt (refine' sub_c _ _ _ _ ?l1 ?l2 _ _ _ _ _ _ _ _ _ _ _ _ _ _ _ _ _ _ _ _ _ _ ?k1 ?k2 ?k3 ?k4 ?k5 ?kK ?kd ?ku ?kR; (case l1 => exact (show 1 ≤ 100 by decide)); (case l2 => exact (show 1 ≤ 100 by decide)); (case k1 => k_asm); (case k2 => k_asm); (case k3 => k_asm); (case k4 => k_asm); (case k5 => k_asm); (case kK => exact rfl); (case kd => (dsimp only [Around.deeper]; omega)); (case ku => (dsimp only [Around.deeper]; omega))); intro t9 h9 tk9 F9 N9; (try dsimp only)))
theorem lev_c (a b : Str) (ta tb : Tok) (mc : Int) (tm : Tok) (ha : a.length ≤ 100) (hb : b.length ≤ 100) (hm0 : 0 ≤ mc) (hm : mc ≤ 100) : Cl 4 28 [.str a ta, .str b tb, .int mc tm] (fun t => .int (lev a b mc) t) := by
  unfold Cl
  k_fill
  w_on
  intro w mean mg mb news dp un gd cn csc ad ccd cl outer A₀ base h₀ L m s Q E hB hF hK hN hT hcs hd hu hret
  refine wpAny_call ?_
  k_dflt cell_enter
  repeat' ((fail_if_success (with_reducible show wpAny _ _ (exec (Stmt.While _ _ _ _) _) _ _ _)); first | (k_unfold; (try dsimp only)) | (k_end; wrow_close) | walk1 | (dsimp only; walk1) | (leave1; walk_say "STEP leave1"; try dsimp only) | fail "no step")

  · refine cb_retI (Q := Q) hret ?_ (by assumption) (by assumption)
    rw [lev, if_pos (eq_of_beq (by assumption))]
  (rename Fr _ _ _ _ => wF)
  (rename News _ _ _ _ => wN)
  refine while_int (x := Str.ofString "pre") (fun k => (k : Int)) (cpl (cs a) (cs b)) wF wN rfl ?_ ?_
  · clear wF wN
    intro k t h tk hk F1 N1
    k_steps
    · refine ⟨pre_go hk (by assumption) (by assumption) (by assumption), ?_⟩
      k_steps
      exact WBody.of2 (by assumption) (by assumption) (by omega)
    · exact WStop.of1 (pre_ne hk (by assumption) (by assumption) (by assumption)) (by assumption) (by assumption)
    · exact WStop.of1 (pre_sb hk (by assumption)) (by assumption) (by assumption)
    · exact WStop.of1 (pre_sa hk (by assumption)) (by assumption) (by assumption)
  · clear wF wN
    intro t h tk F1 N1
    dsimp only
    repeat' ((fail_if_success (with_reducible show wpAny _ _ (exec (Stmt.While _ _ _ _) _) _ _ _)); first | (k_unfold; (try dsimp only)) | (k_end; wrow_close) | walk1 | (dsimp only; walk1) | (leave1; walk_say "STEP leave1"; try dsimp only) | fail "no step")
    (try clear F1 N1)
    (rename Fr _ _ _ _ => wF)
    (rename News _ _ _ _ => wN)
    generalize ha1 : Txt.slice a (some (cpl (cs a) (cs b) : Int)) none = a1 at *
    generalize hb1 : Txt.slice b (some (cpl (cs a) (cs b) : Int)) none = b1 at *
    refine while_int (x := Str.ofString "post") (fun k => -(k : Int)) (cpl (cs a1).reverse (cs b1).reverse) wF wN rfl ?_ ?_
    · clear wF wN
      intro k t h tk hk F1 N1
      have ka := post_la hk
      have kb := post_lb hk
      rcases Nat.eq_zero_or_pos k with hk0 | hk0
      · subst hk0
        rw [show (-((0 : Nat) : Int)) = 0 from rfl] at F1
        repeat' ((fail_if_success (with_reducible show (if (Txt.item _ _ == Txt.item _ _) = true then _ else _))); first | (k_unfold; (try dsimp only)) | (k_end; wrow_close) | walk1 | (dsimp only; walk1) | (leave1; walk_say "STEP leave1"; try dsimp only) | fail "no step")
        · refine split_bool ?_ ?_ <;> intro hc
          · k_steps
            have hgo := post_go' (by omega) hk (by omega) (by omega) hc
            refine ⟨hgo, ?_⟩
            refine gen_toks ?_
            intro tk9
            k_steps
            exact WBody.of2 (by assumption) (by assumption) (by omega)
          · k_steps
            have hgo := post_ne' (by omega) hk (by omega) (by omega) hc
            exact WStop.of1 hgo (by assumption) (by assumption)
        · exact WStop.of1 (post_sb hk (by omega)) (by assumption) (by assumption)
        · exact WStop.of1 (post_sa hk (by omega)) (by assumption) (by assumption)
      · have la := neg_len a1 k hk0 ka
        have lb := neg_len b1 k hk0 kb
        have hn0 : ((-(k : Int)) != 0) = true := by simp; omega
        repeat' ((fail_if_success (with_reducible show (if (Txt.item _ _ == Txt.item _ _) = true then _ else _))); first | (k_unfold; (try dsimp only)) | (k_end; wrow_close) | walk1 | (dsimp only; walk1) | (leave1; walk_say "STEP leave1"; try dsimp only) | fail "no step")
        · refine split_bool ?_ ?_ <;> intro hc
          · k_steps
            have hgo := post_go' (by omega) hk (by omega) (by omega) hc
            refine ⟨hgo, ?_⟩
            refine gen_toks ?_
            intro tk9
            k_steps
            exact WBody.of2 (by assumption) (by assumption) (by omega)
          · k_steps
            have hgo := post_ne' (by omega) hk (by omega) (by omega) hc
            exact WStop.of1 hgo (by assumption) (by assumption)
        · exact WStop.of1 (post_sb hk (by omega)) (by assumption) (by assumption)
        · exact WStop.of1 (post_sa hk (by omega)) (by assumption) (by assumption)
    · clear wF wN
      intro t h tk F1 N1
      dsimp only
      have kla := post_la (Nat.le_refl (cpl (cs a1).reverse (cs b1).reverse))
      have klb := post_lb (Nat.le_refl (cpl (cs a1).reverse (cs b1).reverse))
      generalize hn : cpl (cs a1).reverse (cs b1).reverse = n at *
      have la2 := cutS_len a1 n
      have lb2 := cutS_len b1 n
      refine wpAny_execs_cons ?_
      refine sets_cut (x := Str.ofString "a") (fun t => .str (cutS a1 n) t) F1 N1 ?_ ?_
      · rcases Nat.eq_zero_or_pos n with hk0 | hk0
        · have hn0 : ((-(n : Int)) != 0) = false := by simp; omega
          k_steps
          refine Sets.ofS (by assumption) (by assumption) ?_
          rw [hk0, cutS_zero]
        · have hn0 : ((-(n : Int)) != 0) = true := by simp; omega
          k_steps
          refine Sets.ofS (by assumption) (by assumption) ?_
          rw [cutS_neg a1 n hk0 kla]
      · clear F1 N1
        intro h tk t F1 N1
        dsimp only
        refine wpAny_execs_cons ?_
        refine sets_cut (x := Str.ofString "b") (fun t => .str (cutS b1 n) t) F1 N1 ?_ ?_
        · rcases Nat.eq_zero_or_pos n with hk0 | hk0
          · have hn0 : ((-(n : Int)) != 0) = false := by simp; omega
            k_steps
            refine Sets.ofS (by assumption) (by assumption) ?_
            rw [hk0, cutS_zero]
          · have hn0 : ((-(n : Int)) != 0) = true := by simp; omega
            k_steps
            refine Sets.ofS (by assumption) (by assumption) ?_
            rw [cutS_neg b1 n hk0 klb]
        · clear F1 N1
          intro h tk t F1 N1
          dsimp only
          generalize ha2 : cutS a1 n = a2 at *
          generalize hb2 : cutS b1 n = b2 at *
          have hlev : lev a b mc = lev2 a2 b2 mc := by
            unfold lev
            rw [if_neg (by simp_all)]
            simp only [pre1, ha1, hb1, hn, ha2, hb2]
          repeat' ((fail_if_success (with_reducible show wpAny _ _ (exec (Stmt.If (Expr.Compare _ [CmpOp.Lt] _ _) _ _ _) _) _ _ _)); first | (k_unfold; (try dsimp only)) | (k_end; wrow_close) | walk1 | (dsimp only; walk1) | (leave1; walk_say "STEP leave1"; try dsimp only) | fail "no step")
          · refine cb_retI (Q := Q) hret ?_ (by assumption) (by assumption)
            rw [hlev, lev2, if_neg (by assumption), if_neg (by assumption), if_pos (by assumption)]
          · refine cb_retI (Q := Q) hret ?_ (by assumption) (by assumption)
            rw [hlev, lev2, if_neg (by assumption), if_neg (by assumption), if_neg (by assumption), if_pos (by assumption)]
          · (rename Fr _ _ _ _ => wF)
            (rename News _ _ _ _ => wN)
            refine sets2_cut (x := Str.ofString "a") (x' := Str.ofString "b") (fun t => .str (if (b2.length : Int) < (a2.length : Int) then b2 else a2) t) (fun t => .str (if (b2.length : Int) < (a2.length : Int) then a2 else b2) t) wF wN ?_ ?_
            · k_steps
              · (rename News _ _ _ _ => nE)
                exact Sets2.swap (by assumption) (fun p hp => nE p (.tail _ hp)) (if_pos (by assumption)).symm (if_pos (by assumption)).symm
              · exact Sets2.stay (by assumption) (by assumption) rfl rfl (if_neg (by assumption)).symm (if_neg (by assumption)).symm
            · clear wF wN
              intro h tk t u F1 N1
              dsimp only
              have hlev3 : lev a b mc = lev3 (if (b2.length : Int) < (a2.length : Int) then b2 else a2) (if (b2.length : Int) < (a2.length : Int) then a2 else b2) mc := by
                rw [hlev, lev2, if_neg (by assumption), if_neg (by assumption), if_neg (by assumption), if_neg (by assumption)]
              have hle : (if (b2.length : Int) < (a2.length : Int) then b2 else a2).length ≤ (if (b2.length : Int) < (a2.length : Int) then a2 else b2).length := by split <;> omega
              have hb40 : (if (b2.length : Int) < (a2.length : Int) then a2 else b2).length ≤ 40 := by split <;> omega
              have ha0 : 0 < (if (b2.length : Int) < (a2.length : Int) then b2 else a2).length := by split <;> omega
              generalize ha3 : (if (b2.length : Int) < (a2.length : Int) then b2 else a2) = a3 at *
              generalize hb3 : (if (b2.length : Int) < (a2.length : Int) then a2 else b2) = b3 at *
              repeat' ((fail_if_success (with_reducible show wpAny _ _ (call (Value.type "list") _) _ _ _)); first | (k_unfold; (try dsimp only)) | (k_end; wrow_close) | walk1 | (dsimp only; walk1) | (leave1; walk_say "STEP leave1"; try dsimp only) | fail "no step")
              · refine cb_retI (Q := Q) hret ?_ (by assumption) (by assumption)
                rw [hlev3, lev3, if_pos (by assumption)]
              · refine list_range2 rfl (by assumption) (by assumption) (by assumption) (by omega) ?_
                intro D us c h tk F2 N2 lt2 I2
                try k_lt lt2
                repeat' ((fail_if_success (with_reducible show wpAny _ _ (pyIter _) _ _ _)); first | (k_unfold; (try dsimp only)) | (k_end; wrow_close) | walk1 | (dsimp only; walk1) | (leave1; walk_say "STEP leave1"; try dsimp only) | fail "no step")
                (rename Fr _ _ _ _ => wF)
                (rename News _ _ _ _ => wN)
                (rename IsRange _ _ _ _ _ _ _ _ => wR)
                (rename IntsAre _ _ => I2)
                have hsmall := small_one (a := 0) (b := (b3.length : Int)) (by omega) (by omega) (by omega) (by omega)
                have hsize := rangeSize_nat 0 (b3.length : Int)
                rw [show ((b3.length : Int) - 0).toNat = b3.length by omega] at hsize
                refine' kst_range (σ := Int × Tok × List Value × Nat) (fun c => (D, listOf c.2.2.1.toArray c.2.2.2) :: news) (fun c => [(Str.ofString "result", .int c.1 c.2.1)]) (fun _ => True) [Str.ofString "bchar", Str.ofString "distance", Str.ofString "minimum", Str.ofString "index", Str.ofString "substitute", Str.ofString "insert_delete"] (fun pre c => ∃ M row, IntsAre c.2.2.1 row ∧ M ≤ mc ∧ Mine.outer a3 b3 (row0 a3.length) pre.length = (c.1, M, row)) (0, _, us, c) rfl wR hsmall hsize wF wN trivial ?hk ?hp ?_ ?_
                case hk =>
                  intro p hp
                  cases (List.mem_singleton.mp hp)
                  rfl
                case hp => exact ⟨0, _, I2, hm0, rfl⟩
                · clear wF wN wR hsmall hsize
                  rintro ⟨r, tr, vs, cc⟩ pre k tk0 u0 h tk own hk hlt hoff - ⟨M, row, Ic, hM, hout⟩ F3 N3
                  dsimp only at Ic hout F3 N3
                  simp only [List.cons_append] at N3
                  have k0 : 0 ≤ k := by omega
                  have k1 : k < (b3.length : Int) := by omega
                  repeat' ((fail_if_success (with_reducible show wpAny _ _ (pyIter _) _ _ _)); first | (k_unfold; (try dsimp only)) | (k_end; wrow_close) | walk1 | (dsimp only; walk1) | (leave1; walk_say "STEP leave1"; try dsimp only) | fail "no step")
                  (rename Fr _ _ _ _ => wF)
                  (rename News _ _ _ _ => wN)
                  (rename IsRange _ _ _ _ _ _ _ _ => wR)
                  (rename IntsAre vs row => Ic)
                  have hlen := outer_len a3 b3 (row0 a3.length) pre.length
                  rw [hout, row0_len] at hlen
                  dsimp only at hlen
                  have hsmall := small_one (a := 0) (b := (a3.length : Int)) (by omega) (by omega) (by omega) (by omega)
                  have hsize := rangeSize_nat 0 (a3.length : Int)
                  rw [show ((a3.length : Int) - 0).toNat = a3.length by omega] at hsize
                  refine' kst_range (σ := Int × Tok × Int × Tok × Int × Tok × List Value × Nat) (fun c => (D, listOf c.2.2.2.2.2.2.1.toArray c.2.2.2.2.2.2.2) :: (news ++ own)) (fun c => [(Str.ofString "distance", .int c.1 c.2.1), (Str.ofString "result", .int c.2.2.1 c.2.2.2.1), (Str.ofString "minimum", .int c.2.2.2.2.1 c.2.2.2.2.2.1)]) (fun _ => True) [Str.ofString "substitute", Str.ofString "insert_delete"] (fun pre c => ∃ row', IntsAre c.2.2.2.2.2.2.1 row' ∧ Mine.inner (Txt.item b3 k) a3 k row pre.length = (c.1, c.2.2.1, c.2.2.2.2.1, row')) (k * 2, _, k * 2, _, 9223372036854775807, _, vs, cc) rfl wR hsmall hsize wF wN trivial ?hk ?hp ?_ ?_
                  case hk =>
                    intro p hp
                    rcases List.mem_cons.mp hp with e | hp
                    · cases e; rfl
                    · rcases List.mem_cons.mp hp with e | hp
                      · cases e; rfl
                      · cases (List.mem_singleton.mp hp); rfl
                  case hp => exact ⟨_, Ic, rfl⟩
                  · clear wF wN wR hsmall hsize
                    rintro ⟨d1, td1, r1, tr1, mn1, tm1, vs1, cc1⟩ pre1 k1 tk1 u1 h tk own1 hk1 hlt1 hoff1 - ⟨row1, Ic1, hin⟩ F4 N4
                    dsimp only at Ic1 hin F4 N4
                    simp only [List.cons_append] at N4
                    have k10 : 0 ≤ k1 := by omega
                    have k11 : k1 < (a3.length : Int) := by omega
                    have hlen1 := inner_len (Txt.item b3 k) a3 k row pre1.length
                    rw [hin] at hlen1
                    dsimp only at hlen1
                    have hne : ∀ p ∈ news ++ own ++ own1, p.1 ≠ D := by
                      intro p hp
                      rcases List.mem_append.mp hp with hp | hp
                      · rcases List.mem_append.mp hp with hp | hp
                        · exact Nat.ne_of_lt (lt2 p hp)
                        · exact hoff.ne (.head _) p hp
                      · exact hoff1.ne (.head _) p hp
                    repeat' ((fail_if_success (with_reducible show wpAny _ _ (setItem _ _ _) _ _ _)); first | (k_unfold; (try dsimp only)) | (k_end; wrow_close) | walk1 | (dsimp only; walk1) | (leave1; walk_say "STEP leave1"; try dsimp only) | fail "no step")
                    (rename Fr _ _ _ _ => wF)
                    (rename News _ _ _ _ => wN)
                    generalize hdist : row1.getD k1.toNat 0 = dist at *
                    refine set_gen wF ?_
                    clear wF
                    intro res tkr hres wF
                    refine ksa_set wF wN (Upd.head hne) (by assumption) k10 (by omega) (by omega) ?_
                    intro h F5 N5 I5 _ _
                    repeat' ((fail_if_success (show InvPostN _ _ _ _ _ _ _ _ _)); first | (k_unfold; (try dsimp only)) | (k_end; wrow_close) | walk1 | (dsimp only; walk1) | (leave1; walk_say "STEP leave1"; try dsimp only) | fail "no step")
                    all_goals (
                      (rename News _ _ _ _ => nE)
                      refine' kst_end (_, _, _, _, _, _, vs1.set k1.toNat (Value.int res tkr), cc1) (by assumption) nE ?hn (fun p hp => .tail _ (List.mem_append_right _ hp)) rfl trivial ?hk ?hr ?hp
                      case hk =>
                        intro p hp
                        rcases List.mem_cons.mp hp with e | hp
                        · cases e; rfl
                        · rcases List.mem_cons.mp hp with e | hp
                          · cases e; rfl
                          · cases (List.mem_singleton.mp hp); rfl
                      case hn => exact List.forall_mem_cons.mpr ⟨.head _, fun p hp => .tail _ (List.mem_append_left _ hp)⟩
                      case hr =>
                        intro z h1 h2 h3
                        have d1 : z ≠ Str.ofString "distance" := h2 _ (.head _)
                        have d2 : z ≠ Str.ofString "result" := h2 _ (.tail _ (.head _))
                        have d3 : z ≠ Str.ofString "minimum" := h2 _ (.tail _ (.tail _ (.head _)))
                        have h4 := h3
                        simp only [List.contains_cons, List.contains_nil, Bool.or_false, Bool.or_eq_false_iff, beq_eq_false_iff_ne, ne_eq] at h4
                        simp only [h1, d1, d2, d3, h4, h3, kstB, if_false, Bool.false_eq_true]
                      case hp =>
                        refine ⟨_, I5, ?_⟩
                        rw [List.length_append, List.length_singleton]
                        show rowStep _ _ (Mine.inner _ _ _ _ pre1.length) _ = _
                        rw [hin, show ((pre1.length : Nat) : Int) = k1 by omega]
                        simp only [rowStep, hdist, ← hres]
                        first | rw [if_pos (by assumption)] | rw [if_neg (by assumption)])
                  · clear wF wN wR hsmall hsize
                    rintro ⟨d1, td1, r1, tr1, mn1, tm1, vs1, cc1⟩ u1 h tk - ⟨row1, Ic1, hin⟩ F4 N4
                    dsimp only at Ic1 hin F4 N4
                    rw [rangeKs_length] at hin
                    dsimp only
                    have hout1 : Mine.outer a3 b3 (row0 a3.length) (pre.length + 1) = (r1, max M mn1, row1) := by
                      show (_, _, _) = _
                      rw [hout, show ((pre.length : Nat) : Int) = k by omega, hin]
                    repeat' ((fail_if_success (show InvPostN _ _ _ _ _ _ _ _ _)); first | (k_unfold; (try dsimp only)) | (k_end; wrow_close) | walk1 | (dsimp only; walk1) | (leave1; walk_say "STEP leave1"; try dsimp only) | fail "no step")
                    · dsimp only [InvPostN]
                      k_steps
                      (rename News _ _ _ _ => nE)
                      refine cb_retI (Q := Q) hret ?_ (by assumption) (fun p hp => nE p (.tail _ (List.mem_append_left _ hp)))
                      have hmono := outer_mono a3 b3 (row0 a3.length) (pre.length + 1) (b3.length - (pre.length + 1))
                      rw [hout1, show pre.length + 1 + (b3.length - (pre.length + 1)) = b3.length by omega] at hmono
                      dsimp only at hmono
                      rw [hlev3, lev3, if_neg (by assumption), if_pos (by omega)]
                    · (rename News _ _ _ _ => nE)
                      refine' kst_end (r1, _, vs1, cc1) (by assumption) nE (List.forall_mem_cons.mpr ⟨.head _, fun p hp => .tail _ (List.mem_append_left _ hp)⟩) (fun p hp => .tail _ (List.mem_append_right _ hp)) rfl trivial ?hk ?hr ?hp
                      case hk =>
                        intro p hp
                        cases (List.mem_singleton.mp hp)
                        rfl
                      case hr =>
                        intro z h1 h2 h3
                        have d2 : z ≠ Str.ofString "result" := h2 _ (.head _)
                        have h4 := h3
                        simp only [List.contains_cons, List.contains_nil, Bool.or_false, Bool.or_eq_false_iff, beq_eq_false_iff_ne, ne_eq] at h4
                        have h5 : [Str.ofString "substitute", Str.ofString "insert_delete"].contains z = false := by
                          simp only [List.contains_cons, List.contains_nil, Bool.or_false, Bool.or_eq_false_iff, beq_eq_false_iff_ne, ne_eq]
                          exact h4.2.2.2.2
                        simp only [h1, d2, h4, h3, h5, kstB, if_false, Bool.false_eq_true]
                      case hp => exact ⟨max M mn1, row1, Ic1, by omega, by rw [List.length_append]; exact hout1⟩
                · clear wF wN wR hsmall hsize
                  rintro ⟨r, tr, vs, cc⟩ u0 h tk - ⟨M, row, Ic, hM, hout⟩ F3 N3
                  dsimp only at Ic hout F3 N3
                  dsimp only
                  k_steps
                  (rename News _ _ _ _ => nE)
                  refine cb_retI (Q := Q) hret ?_ (by assumption) (fun p hp => nE p (.tail _ hp))
                  rw [rangeKs_length] at hout
                  rw [hlev3, lev3, if_neg (by assumption), hout, if_neg (by dsimp only; omega)]
          · refine cb_retI (Q := Q) hret ?_ (by assumption) (by assumption)
            rw [hlev, lev2, if_neg (by assumption), if_pos (by assumption)]
          · refine cb_retI (Q := Q) hret ?_ (by assumption) (by assumption)
            rw [hlev, lev2, if_pos (by assumption)]
end Mine
namespace Mine
open PySem PySem.W PyProof.Rows
set_option maxRecDepth 100000
set_option maxHeartbeats 1000000
theorem parse_c (x : Str) (tx : Tok) (hx : x.length ≤ 100) (hx5 : 5 ≤ x.length) (h3 : (Txt.slice x none (some 3) != Str.ofString "257") = false) (h35 : (Txt.slice x (some 3) (some 5) != Str.ofString " \"") = false) : Cl 2 60 [.str x tx] (fun t => .str (pqS x) t) := by
  unfold Cl
  k_fill
  w_on
  intro w mean mg mb news dp un gd cn csc ad ccd cl outer A₀ base h₀ L m s Q E hB hF hK hN hT hcs hd hu hret
  refine wpAny_call ?_
  k_dflt cell_enter
  repeat' ((fail_if_success (with_reducible show wpAny _ _ (exec (Stmt.While _ _ _ _) _) _ _ _)); first | (k_unfold; (try dsimp only)) | (k_end; wrow_close) | walk1 | (dsimp only; walk1) | (leave1; walk_say "STEP leave1"; try dsimp only) | fail "no step")
  (rename Fr _ _ _ _ => wF)
  (rename News _ _ _ _ => wN)
  refine' ksw_while (σ := Str × Tok × Int × Tok) (fun _ => news) (fun c => [(Str.ofString "dirname", .str c.1 c.2.1), (Str.ofString "i", .int c.2.2.1 c.2.2.2)]) (fun _ => True) [Str.ofString "c"] (fun c => PInv x c.1 c.2.2.1) (fun c => x.length - c.2.2.1.toNat) (Str.ofString "", _, 5, _) wF wN trivial ?hk (pinv_start x hx5) ?_
  case hk =>
    intro p hp
    rcases List.mem_cons.mp hp with e | hp
    · cases e; rfl
    · cases (List.mem_singleton.mp hp); rfl
  clear wF wN
  rintro ⟨dir, td, i, ti⟩ u0 h tk - hinv F3 N3
  dsimp only at hinv F3 N3
  obtain ⟨j, hij, h5, hj, hl, -⟩ := id hinv
  have i0 : 5 ≤ i := by omega
  have i1 : i ≤ (x.length : Int) := by omega
  have hdl : dir.length ≤ 100 := by omega
  clear hij h5 hj hl
  repeat' ((fail_if_success (show KswPost _ _ _ _ _ _ _ _ _ _ _ _ _ _)); first | (k_unfold; (try dsimp only)) | (k_end; wrow_close) | walk1 | (dsimp only; walk1) | (leave1; walk_say "STEP leave1"; try dsimp only) | fail "no step")
  · dsimp only [KswPost]
    k_steps
    exact cb_retS (Q := Q) hret (pinv_break1 hinv (by assumption) (by assumption) (by assumption)) (by assumption) (by assumption)
  · dsimp only [KswPost]
    k_steps
    exact cb_retS (Q := Q) hret (pinv_break2 hinv (by omega) (by assumption) (by simpa using (by assumption : (Txt.item x (i + 1) != Str.ofString "\"") = true))) (by assumption) (by assumption)
  · dsimp only [KswPost]
    refine' ksw_end (dir ++ Txt.item x i, _, i + 1 + 1, _) (by assumption) (by assumption) (fun p hp => hp) trivial ?hk ?hr ?hp ?hm
    case hk =>
      intro p hp
      rcases List.mem_cons.mp hp with e | hp
      · cases e; rfl
      · cases (List.mem_singleton.mp hp); rfl
    case hr =>
      intro z h2 h3
      have d1 : z ≠ Str.ofString "dirname" := h2 _ (.head _)
      have d2 : z ≠ Str.ofString "i" := h2 _ (.tail _ (.head _))
      have h4 := h3
      simp only [List.contains_cons, List.contains_nil, Bool.or_false, Bool.or_eq_false_iff, beq_eq_false_iff_ne, ne_eq] at h4
      simp only [d1, d2, h4, h3, kstB, if_false, Bool.false_eq_true]
    case hp => exact pinv_pair hinv (by omega) (by assumption) (by simpa using (by assumption : (Txt.item x (i + 1) != Str.ofString "\"") = false))
    case hm => dsimp only; omega
  · dsimp only [KswPost]
    refine' ksw_end (dir ++ Txt.item x i, _, i + 1, _) (by assumption) (by assumption) (fun p hp => hp) trivial ?hk ?hr ?hp ?hm
    case hk =>
      intro p hp
      rcases List.mem_cons.mp hp with e | hp
      · cases e; rfl
      · cases (List.mem_singleton.mp hp); rfl
    case hr =>
      intro z h2 h3
      have d1 : z ≠ Str.ofString "dirname" := h2 _ (.head _)
      have d2 : z ≠ Str.ofString "i" := h2 _ (.tail _ (.head _))
      have h4 := h3
      simp only [List.contains_cons, List.contains_nil, Bool.or_false, Bool.or_eq_false_iff, beq_eq_false_iff_ne, ne_eq] at h4
      simp only [d1, d2, h4, h3, kstB, if_false, Bool.false_eq_true]
    case hp => exact pinv_plain hinv (by assumption) (by assumption)
    case hm => dsimp only; omega
  · exact cb_retS (Q := Q) hret (pinv_end hinv (by assumption)) (by assumption) (by assumption)
end Mine
namespace Mine
open PySem PySem.W PyProof.Rows
set_option maxRecDepth 100000
set_option maxHeartbeats 1000000
theorem text_c (l : Addr) (a b : Int) (x : Str) (ta tx tb : Tok) (rest : List (Addr × Obj)) (ha0 : 0 ≤ a) (ha : a ≤ 10) (hb0 : 0 ≤ b) (hb : b ≤ 10) (hx : x.length ≤ 1) :
    ClW 2 ((l, tup3 a ta x tx b tb) :: rest) 67 [.ref l] (fun t => .str (textS a x b) t) := by
  unfold ClW
  k_fill
  w_on
  intro w mean mg mb dp un gd cn csc ad ccd cl outer A₀ base h₀ L m s Q E hB hF hK hN hT hcs hd hu hret
  refine wpAny_call ?_
  k_dflt cell_enter
  k_steps
  exact cb_retS (Q := Q) hret rfl (by assumption) (by assumption)
theorem whole_c (i : Int) (ti : Tok) : Cl 2 88 [.int i ti] (fun t => .bool true) := by
  unfold Cl
  k_fill
  w_on
  intro w mean mg mb news dp un gd cn csc ad ccd cl outer A₀ base h₀ L m s Q E hB hF hK hN hT hcs hd hu hret
  refine wpAny_call ?_
  k_dflt cell_enter
  k_steps
  exact cb_retB (Q := Q) hret rfl (by assumption) (by assumption)
theorem halved_c (l : Addr) (a b : Int) (x : Str) (ta tx tb : Tok) (rest : List (Addr × Obj)) (ha0 : 0 ≤ a) (ha : a ≤ 10) (hb0 : 0 ≤ b) (hb : b ≤ 10) (hx : x.length ≤ 1) :
    ∀ (w : World) (mean : ExcName → Option Value) (mg mb : Str → Option Value)
    (dp un : Nat) (gd : Option (List Code)) (cn : Str) (cs : Scope) (ad : Addr) (ccd : Value) (cl : List (Str × Addr)) (outer : List Env) (A₀ : Around) (base h₀ : Heap) (L : Addr) (m : Str → Option Value) (s : Shared) (Q E : Value → Shared → Prop),
    Below A₀ base outer h₀ → Fr h₀ L s.heap m → (hd.heap_39 w.params).In h₀ → News h₀ L s.heap ((l, tup3 a ta x tx b tb) :: rest) → Top hd.view_39 (looseW hd.view_39 []) mean mg mb h₀ → cs.kind = .function →
    dp + 2 < recursionLimit → un + 10 * 2 < cLine → (∀ (D : Addr) (t1 t2 t3 : Tok) (h' : Heap) (tk' : Nat), Fr h₀ L h' m → News h₀ L h' ((D, tup3 (hA a) t1 (hX a x) t2 (hB a b) t3) :: (l, tup3 a ta x tx b tb) :: rest) → (∀ p ∈ ((l, tup3 a ta x tx b tb) :: rest), p.1 < D) → Q (.ref D) { s with heap := h', toks := tk' }) →
      wpAny (model PySem.Challenge.rw_pe0084_01.row.prog w) (ktrTop dp un gd cn cs L ad ccd cl outer) (call (.ref 74) [.ref l]) Q E s := by
  k_fill
  w_on
  intro w mean mg mb dp un gd cn csc ad ccd cl outer A₀ base h₀ L m s Q E hB' hF hK hN hT hcs hd hu hret
  refine wpAny_call ?_
  k_dflt cell_enter
  k_steps
  · (rename l < _ ∧ _ => hl1)
    (rename News _ _ _ _ => nE)
    have eX : hX a x = Str.ofString "" := if_pos (by assumption)
    have eB : hB a b = 0 := if_pos (by assumption)
    rw [eX, eB] at hret
    exact hret _ _ _ _ _ _ (by assumption) nE (List.forall_mem_cons.mpr ⟨hl1.1, kst_ltOf hl1.2⟩)
  · (rename l < _ ∧ _ => hl1)
    (rename News _ _ _ _ => nE)
    have eX : hX a x = x := if_neg (by assumption)
    have eB : hB a b = b.fdiv 2 := if_neg (by assumption)
    rw [eX, eB] at hret
    exact hret _ _ _ _ _ _ (by assumption) nE (List.forall_mem_cons.mpr ⟨hl1.1, kst_ltOf hl1.2⟩)
end Mine
namespace Mine
open PySem PySem.W PyProof.Rows
set_option maxRecDepth 100000
set_option maxHeartbeats 1000000
theorem far_c (l l' : Addr) (a b c d : Int) (x y : Str) (ta tx tb tc ty td : Tok) (rest : List (Addr × Obj)) (ha0 : 0 ≤ a) (ha : a ≤ 10) (hb0 : 0 ≤ b) (hb : b ≤ 10) (hx : x.length ≤ 1) (hc0 : 0 ≤ c) (hc : c ≤ 10) (hd0 : 0 ≤ d) (hd' : d ≤ 10) (hy : y.length ≤ 1) :
    ClW 2 ((l, tup3 a ta x tx b tb) :: (l', tup3 c tc y ty d td) :: rest) 81 [.ref l, .ref l'] (fun t => .int (far a x b c y d) t) := by
  unfold ClW
  k_fill
  w_on
  intro w mean mg mb dp un gd cn csc ad ccd cl outer A₀ base h₀ L m s Q E hB hF hK hN hT hcs hd hu hret
  refine wpAny_call ?_
  k_dflt cell_enter
  k_steps
  · refine cb_retI (Q := Q) hret ?_ (by assumption) (by assumption)
    rw [far, (by assumption : (x == Str.ofString "") = true)]; rfl
  · refine cb_retI (Q := Q) hret ?_ (by assumption) (by assumption)
    rw [far, (by assumption : (x == Str.ofString "") = false), (by assumption : (y == Str.ofString "") = true)]; rfl
  · refine cb_retI (Q := Q) hret ?_ (by assumption) (by assumption)
    rw [far, (by assumption : (x == Str.ofString "") = false), (by assumption : (y == Str.ofString "") = false), (by assumption : (x != y) = true), (by assumption : (Builtin.Str.occurrences (x ++ y) (Str.ofString "y") 0 (x ++ y).length 1).isEmpty = true)]
    simp only [cond_true, cond_false]
    rw [farL, if_pos (by assumption : (if a + b - (c + d) < 0 then -(a + b - (c + d)) else a + b - (c + d)) = 0)]
  · refine cb_retI (Q := Q) hret ?_ (by assumption) (by assumption)
    rw [far, (by assumption : (x == Str.ofString "") = false), (by assumption : (y == Str.ofString "") = false), (by assumption : (x != y) = true), (by assumption : (Builtin.Str.occurrences (x ++ y) (Str.ofString "y") 0 (x ++ y).length 1).isEmpty = true)]
    simp only [cond_true, cond_false]
    rw [farL, if_neg (by assumption : (if a + b - (c + d) < 0 then -(a + b - (c + d)) else a + b - (c + d)) ≠ 0)]
  · refine cb_retI (Q := Q) hret ?_ (by assumption) (by assumption)
    rw [far, (by assumption : (x == Str.ofString "") = false), (by assumption : (y == Str.ofString "") = false), (by assumption : (x != y) = true), (by assumption : (Builtin.Str.occurrences (x ++ y) (Str.ofString "y") 0 (x ++ y).length 1).isEmpty = false)]
    simp only [cond_true, cond_false]
    rw [farL, if_pos (by assumption : (if a + b - (c + d) < 0 then -(a + b - (c + d)) else a + b - (c + d)) = 0)]
  · refine cb_retI (Q := Q) hret ?_ (by assumption) (by assumption)
    rw [far, (by assumption : (x == Str.ofString "") = false), (by assumption : (y == Str.ofString "") = false), (by assumption : (x != y) = true), (by assumption : (Builtin.Str.occurrences (x ++ y) (Str.ofString "y") 0 (x ++ y).length 1).isEmpty = false)]
    simp only [cond_true, cond_false]
    rw [farL, if_neg (by assumption : (if a + b - (c + d) < 0 then -(a + b - (c + d)) else a + b - (c + d)) ≠ 0)]
  · refine cb_retI (Q := Q) hret ?_ (by assumption) (by assumption)
    rw [far, (by assumption : (x == Str.ofString "") = false), (by assumption : (y == Str.ofString "") = false), (by assumption : (x != y) = false)]
    simp only [cond_false]
    rw [farL, if_pos (by assumption : (if a + b - (c + d) < 0 then -(a + b - (c + d)) else a + b - (c + d)) = 0)]
  · refine cb_retI (Q := Q) hret ?_ (by assumption) (by assumption)
    rw [far, (by assumption : (x == Str.ofString "") = false), (by assumption : (y == Str.ofString "") = false), (by assumption : (x != y) = false)]
    simp only [cond_false]
    rw [farL, if_neg (by assumption : (if a + b - (c + d) < 0 then -(a + b - (c + d)) else a + b - (c + d)) ≠ 0)]
end Mine
namespace Mine
open PySem PySem.W PyProof.Rows
set_option maxRecDepth 100000
/-- what one sign upon another costs -/
noncomputable def costM (p q : Nat) : Nat := bif Nat.beq p q then 0 else bif Nat.beq p 120 then (bif Nat.beq q 88 then 1 else 2) else bif Nat.beq p 88 then (bif Nat.beq q 120 then 1 else 2) else 2
noncomputable def mn (a b : Nat) : Nat := bif Nat.ble a b then a else b
noncomputable def mx (a b : Nat) : Nat := bif Nat.ble a b then b else a
theorem mn_is (a b : Nat) : mn a b = if a ≤ b then a else b := by
  unfold mn
  cases h : Nat.ble a b
  · rw [if_neg (fun h' => by rw [Nat.ble_eq_true_of_le h'] at h; cases h)]; rfl
  · rw [if_pos (Nat.le_of_ble_eq_true h)]; rfl
theorem mx_is (a b : Nat) : mx a b = if a ≤ b then b else a := by
  unfold mx
  cases h : Nat.ble a b
  · rw [if_neg (fun h' => by rw [Nat.ble_eq_true_of_le h'] at h; cases h)]; rfl
  · rw [if_pos (Nat.le_of_ble_eq_true h)]; rfl
/-- a row, cell by cell: the sign, the signs along the row, the old row, the cell aslant, the cell beside, the least, the new row backwards -/
noncomputable def rowN (bc : Nat) : List Nat → List Nat → Nat → Nat → Nat → List Nat → Nat × Nat × List Nat
  | c :: A, o :: row, d, r, m, acc =>
    (fun v => rowN bc A row o v (mn v m) (v :: acc)) (mn (Nat.add d (costM bc c)) (Nat.add (mn o r) 2))
  | _, _, _, r, m, acc => (r, m, acc.reverse)
noncomputable def rowsN (A : List Nat) : List Nat → Nat → List Nat → Nat → Nat → Nat × Nat
  | b :: B, j, row, _, M => (fun t => rowsN A B (Nat.succ j) t.2.2 t.1 (mx M t.2.1)) (rowN b A row (Nat.mul j 2) (Nat.mul j 2) 9223372036854775807 [])
  | [], _, _, r, M => (r, M)
noncomputable def row0N (n : Nat) : List Nat := (List.range n).map fun i => 2 + 2 * i
noncomputable def okCoreN (A B : List Nat) (F : Nat) : Bool :=
  Nat.ble (2 * (B.length - A.length)) F && (fun t => Nat.ble t.2 F && Nat.beq t.1 F) (rowsN A B 0 (row0N A.length) 0 0)
noncomputable def okOneN (A B : List Nat) (F : Nat) : Bool :=
  match A, B with
  | [], B => Nat.beq (2 * B.length) F
  | A, [] => Nat.beq (2 * A.length) F
  | A, B => bif Nat.ble A.length B.length then okCoreN A B F else okCoreN B A F
noncomputable def stripL (A B : List Nat) : List Nat × List Nat :=
  (((A.drop (cpl A B)).take ((A.drop (cpl A B)).length - cpl (A.drop (cpl A B)).reverse (B.drop (cpl A B)).reverse)),
   ((B.drop (cpl A B)).take ((B.drop (cpl A B)).length - cpl (A.drop (cpl A B)).reverse (B.drop (cpl A B)).reverse)))
noncomputable def okS (A B : List Nat) (F : Nat) : Bool := okOneN (stripL A B).1 (stripL A B).2 F

/-- the signs that the law's texts are made of -/
def Sign (p : Nat) : Prop := p = 34 ∨ p = 120 ∨ p = 88 ∨ p = 121 ∨ p = 50 ∨ p = 53 ∨ p = 55 ∨ p = 32
def Signs (A : List Nat) : Prop := ∀ p ∈ A, Sign p
theorem subst_is {p r : Nat} (h : Sign p) (h' : Sign r) : subst ⟨#[p]⟩ ⟨#[r]⟩ = (costM p r : Int) := by
  rcases h with rfl | rfl | rfl | rfl | rfl | rfl | rfl | rfl <;> rcases h' with rfl | rfl | rfl | rfl | rfl | rfl | rfl | rfl <;> decide +kernel
abbrev up (l : List Nat) : List Int := l.map Int.ofNat
theorem up_getD {acc l : List Nat} {i v : Nat} (h : acc.length = i) : (up (acc.reverse ++ v :: l)).getD i 0 = (v : Int) := by
  rw [List.getD_eq_getElem?_getD, List.getElem?_map, List.getElem?_append_right (by simp [h])]
  simp [h]
theorem up_set {acc l : List Nat} {i v w : Nat} (h : acc.length = i) : (up (acc.reverse ++ v :: l)).set i (w : Int) = up ((w :: acc).reverse ++ l) := by
  unfold up
  rw [show ((w : Nat) : Int) = Int.ofNat w from rfl, ← List.map_set, List.set_append_right _ _ (by simp [h])]
  simp [h]
theorem inner_is {a : Str} {bc : Nat} (ha : Signs (cs a)) (hb : Sign bc) (j : Nat) (row : List Nat) (hr : row.length = a.length) : ∀ i, i ≤ a.length →
    ∃ (d r m : Nat) (acc : List Nat), inner ⟨#[bc]⟩ a (j : Int) (up row) i = ((d : Int), (r : Int), (m : Int), up (acc.reverse ++ row.drop i)) ∧ acc.length = i ∧
      rowN bc ((cs a).drop i) (row.drop i) d r m acc = rowN bc (cs a) row (Nat.mul j 2) (Nat.mul j 2) 9223372036854775807 []
  | 0, _ => ⟨j * 2, j * 2, 9223372036854775807, [], by
      show ((j : Int) * 2, (j : Int) * 2, (9223372036854775807 : Int), up row) = _
      simp, rfl, by simp⟩
  | i + 1, hi => by
    obtain ⟨d, r, m, acc, e, hl, hn⟩ := inner_is ha hb j row hr i (by omega)
    have hi' : i < a.length := by omega
    have hic : i < (cs a).length := by rw [cs_length]; exact hi'
    have hir : i < row.length := by omega
    have e1 : (cs a).drop i = (cs a)[i] :: (cs a).drop (i + 1) := List.drop_eq_getElem_cons hic
    have e2 : row.drop i = row[i] :: row.drop (i + 1) := List.drop_eq_getElem_cons hir
    rw [e1, e2] at hn
    rw [e2] at e
    refine ⟨row[i], mn (d + costM bc (cs a)[i]) (mn row[i] r + 2), mn (mn (d + costM bc (cs a)[i]) (mn row[i] r + 2)) m, mn (d + costM bc (cs a)[i]) (mn row[i] r + 2) :: acc, ?_, by simp [hl], hn⟩
    show rowStep _ a (inner _ a (j : Int) (up row) i) (i : Int) = _
    rw [e]
    unfold rowStep
    simp only [Int.toNat_natCast, up_getD hl]
    rw [item_cs a i hi', subst_is hb (ha _ (List.getElem_mem hic))]
    have hv : (if (d : Int) + (costM bc (cs a)[i] : Int) < (if (row[i] : Int) < (r : Int) then (row[i] : Int) else (r : Int)) + 2 then (d : Int) + (costM bc (cs a)[i] : Int) else (if (row[i] : Int) < (r : Int) then (row[i] : Int) else (r : Int)) + 2) = ((mn (d + costM bc (cs a)[i]) (mn row[i] r + 2) : Nat) : Int) := by
      simp only [mn_is]
      repeat' split
      all_goals omega
    rw [hv, up_set hl]
    have hm : (if ((mn (d + costM bc (cs a)[i]) (mn row[i] r + 2) : Nat) : Int) < (m : Int) then ((mn (d + costM bc (cs a)[i]) (mn row[i] r + 2) : Nat) : Int) else (m : Int)) = ((mn (mn (d + costM bc (cs a)[i]) (mn row[i] r + 2)) m : Nat) : Int) := by
      rw [mn_is (mn _ _) m]
      repeat' split
      all_goals omega
    rw [hm]
theorem rowN_nil {bc d r m : Nat} {row acc : List Nat} : rowN bc [] row d r m acc = (r, m, acc.reverse) := by
  unfold rowN; rfl
theorem inner_end {a : Str} {bc : Nat} (ha : Signs (cs a)) (hb : Sign bc) (j : Nat) (row : List Nat) (hr : row.length = a.length) :
    ∃ d : Int, ∃ t : Nat × Nat × List Nat, inner ⟨#[bc]⟩ a (j : Int) (up row) a.length = (d, (t.1 : Int), (t.2.1 : Int), up t.2.2) ∧ t.2.2.length = a.length ∧
      t = rowN bc (cs a) row (Nat.mul j 2) (Nat.mul j 2) 9223372036854775807 [] := by
  obtain ⟨d, r, m, acc, e, hl, hn⟩ := inner_is ha hb j row hr a.length (Nat.le_refl _)
  rw [List.drop_eq_nil_of_le (by rw [cs_length]; omega), rowN_nil] at hn
  rw [List.drop_eq_nil_of_le (by omega), List.append_nil] at e
  exact ⟨d, (r, m, acc.reverse), e, by simp [hl], hn⟩
theorem row0_up (n : Nat) : row0 n = up (row0N n) := by
  unfold row0 row0N up
  rw [List.map_map]
  apply List.map_congr_left
  intro i _
  show 2 + 2 * (i : Int) = Int.ofNat (2 + 2 * i)
  simp
theorem outer_is {a b : Str} (ha : Signs (cs a)) (hb : Signs (cs b)) : ∀ j, j ≤ b.length →
    ∃ (r M : Nat) (row : List Nat), outer a b (row0 a.length) j = ((r : Int), (M : Int), up row) ∧ row.length = a.length ∧
      rowsN (cs a) ((cs b).drop j) j row r M = rowsN (cs a) (cs b) 0 (row0N a.length) 0 0
  | 0, _ => ⟨0, 0, row0N a.length, by rw [row0_up]; rfl, by simp [row0N], by simp⟩
  | j + 1, hj => by
    obtain ⟨r, M, row, e, hl, hn⟩ := outer_is ha hb j (by omega)
    have hj' : j < b.length := by omega
    have hjc : j < (cs b).length := by rw [cs_length]; exact hj'
    rw [List.drop_eq_getElem_cons hjc] at hn
    obtain ⟨d, t, e1, hl1, ht⟩ := inner_end ha (hb _ (List.getElem_mem hjc)) j row hl
    refine ⟨t.1, mx M t.2.1, t.2.2, ?_, hl1, ?_⟩
    · unfold outer
      simp only [e]
      rw [item_cs b j hj', e1]
      have : max (M : Int) (t.2.1 : Int) = ((mx M t.2.1 : Nat) : Int) := by
        rw [mx_is]
        split <;> omega
      simp only [this]
    · rw [← hn]
      show _ = (fun t => rowsN (cs a) _ (Nat.succ j) t.2.2 t.1 (mx M t.2.1)) (rowN _ (cs a) row (Nat.mul j 2) (Nat.mul j 2) 9223372036854775807 [])
      rw [← ht]
theorem outer_end {a b : Str} (ha : Signs (cs a)) (hb : Signs (cs b)) :
    (outer a b (row0 a.length) b.length).1 = ((rowsN (cs a) (cs b) 0 (row0N a.length) 0 0).1 : Int) ∧ (outer a b (row0 a.length) b.length).2.1 = ((rowsN (cs a) (cs b) 0 (row0N a.length) 0 0).2 : Int) := by
  obtain ⟨r, M, row, e, -, hn⟩ := outer_is ha hb b.length (Nat.le_refl _)
  rw [List.drop_eq_nil_of_le (by rw [cs_length]; omega)] at hn
  rw [← hn, e]
  exact ⟨rfl, rfl⟩
/-- at a bound m: the distance, or more than the bound where the distance is more -/
def Tells (F m r : Int) : Prop := r = F ∨ (m < F ∧ r = m + 1)
theorem lev3_ok {a b : Str} {F : Nat} (ha : Signs (cs a)) (hb : Signs (cs b)) (h : okCoreN (cs a) (cs b) F = true) (hl : a.length ≤ b.length) (m : Int) : Tells F m (lev3 a b m) := by
  unfold okCoreN at h
  simp only [Bool.and_eq_true] at h
  obtain ⟨h1, h2, h3⟩ := h
  have h1 := Nat.le_of_ble_eq_true h1
  have h2 := Nat.le_of_ble_eq_true h2
  have h3 := Nat.eq_of_beq_eq_true h3
  rw [cs_length] at h1 h2 h3
  rw [cs_length] at h1
  obtain ⟨e1, e2⟩ := outer_end ha hb
  unfold lev3 Tells
  rw [e1, e2, h3]
  repeat' split
  all_goals omega
theorem lev2_ok {a b : Str} {F : Nat} (ha : Signs (cs a)) (hb : Signs (cs b)) (h : okOneN (cs a) (cs b) F = true) (hla : a.length ≤ 40) (hlb : b.length ≤ 40) (m : Int) : Tells F m (lev2 a b m) := by
  unfold okOneN at h
  have la := cs_length a
  have lb := cs_length b
  unfold lev2
  split at h
  · rename_i e
    rw [e] at la
    have h := Nat.eq_of_beq_eq_true h
    rw [cs_length] at h
    simp at la
    rw [if_pos (by omega)]
    left
    omega
  · rename_i e _
    rw [e] at lb
    have h := Nat.eq_of_beq_eq_true h
    rw [cs_length] at h
    simp at lb
    rw [if_pos (c := (b.length : Int) = 0) (by omega)]
    left
    split <;> omega
  · rename_i na nb
    have za : a.length ≠ 0 := by
      intro e
      rw [e] at la
      exact na (List.length_eq_zero_iff.mp la)
    have zb : b.length ≠ 0 := by
      intro e
      rw [e] at lb
      exact nb (List.length_eq_zero_iff.mp lb)
    rw [if_neg (by omega), if_neg (by omega), if_neg (by omega), if_neg (by omega)]
    cases hc : Nat.ble (cs a).length (cs b).length
    · rw [hc] at h
      have hlt : b.length < a.length := by
        apply Classical.byContradiction
        intro hn
        rw [Nat.ble_eq_true_of_le (by omega)] at hc
        cases hc
      rw [if_pos (by omega), if_pos (by omega)]
      exact lev3_ok hb ha h (by omega) m
    · rw [hc] at h
      have hle := Nat.le_of_ble_eq_true hc
      rw [if_neg (by omega), if_neg (by omega)]
      exact lev3_ok ha hb h (by omega) m
theorem cpl_self : ∀ A, cpl A A = A.length
  | [] => rfl
  | a :: A => by
    unfold cpl
    rw [if_pos rfl, cpl_self A]
    rfl
theorem strip_1 (a b : Str) : cs (cutS (pre1 a b a) (cpl (cs (pre1 a b a)).reverse (cs (pre1 a b b)).reverse)) = (stripL (cs a) (cs b)).1 := by
  rw [cutS_cs]
  unfold pre1
  rw [from_cs, from_cs, ← cs_length, from_cs]
  rfl
theorem strip_2 (a b : Str) : cs (cutS (pre1 a b b) (cpl (cs (pre1 a b a)).reverse (cs (pre1 a b b)).reverse)) = (stripL (cs a) (cs b)).2 := by
  rw [cutS_cs]
  unfold pre1
  rw [from_cs, from_cs, ← cs_length, from_cs]
  rfl
theorem lev_ok {a b : Str} {F : Nat} (ha : Signs (cs a)) (hb : Signs (cs b)) (hla : a.length ≤ 40) (hlb : b.length ≤ 40) (h : okS (cs a) (cs b) F = true) (m : Int) : Tells F m (lev a b m) := by
  unfold okS at h
  by_cases e : a = b
  · unfold lev
    rw [if_pos e]
    subst e
    left
    have e1 : stripL (cs a) (cs a) = ([], []) := by
      unfold stripL
      rw [cpl_self, List.drop_length]
      rfl
    rw [e1] at h
    have h := Nat.eq_of_beq_eq_true h
    simp at h
    omega
  · unfold lev
    rw [if_neg e]
    have s1 := strip_1 a b
    have s2 := strip_2 a b
    have sub : ∀ x k p, p ∈ cs (cutS (pre1 a b x) k) → p ∈ cs x := by
      intro x k p hp
      rw [cutS_cs] at hp
      unfold pre1 at hp
      rw [from_cs] at hp
      exact List.mem_of_mem_drop (List.mem_of_mem_take hp)
    have len : ∀ x k, (cutS (pre1 a b x) k).length ≤ x.length := by
      intro x k
      rw [cutS_len]
      unfold pre1
      rw [from_len]
      omega
    generalize hk : cpl (cs (pre1 a b a)).reverse (cs (pre1 a b b)).reverse = k at *
    refine lev2_ok (fun p hp => ha p (sub _ _ _ hp)) (fun p hp => hb p (sub _ _ _ hp)) ?_ (Nat.le_trans (len _ _) hla) (Nat.le_trans (len _ _) hlb) m
    rw [s1, s2]
    exact h
end Mine
namespace Mine
open PySem PySem.W PyProof.Rows
set_option maxRecDepth 100000
noncomputable def ok2 (A B : List Nat) (F : Nat) : Bool := okS A B F && okS B A F
noncomputable def q (n : Nat) : List Nat := List.replicate n 34
noncomputable def price (x y : Nat) : Int := if x = y then 0 else if x = 121 then 2 else if y = 121 then 2 else 1
theorem ok2_comm {A B : List Nat} {F : Nat} (h : ok2 A B F = true) : ok2 B A F = true := by
  unfold ok2 at h ⊢
  rw [Bool.and_comm]; exact h
theorem cpl_app (p A B : List Nat) : cpl (p ++ A) (p ++ B) = p.length + cpl A B := by
  induction p with
  | nil => simp
  | cons c p ih =>
    show (if c = c then cpl (p ++ A) (p ++ B) + 1 else 0) = _
    rw [if_pos rfl, ih, List.length_cons]
    omega
theorem drop_app (p A : List Nat) (n : Nat) : (p ++ A).drop (p.length + n) = A.drop n := by
  rw [List.drop_append]
  simp
theorem strip_pre (p A B : List Nat) : stripL (p ++ A) (p ++ B) = stripL A B := by
  unfold stripL
  rw [cpl_app, drop_app, drop_app]
theorem strip_suf (s A B : List Nat) (h : cpl A B = 0) (h' : cpl (A ++ s) (B ++ s) = 0) : stripL (A ++ s) (B ++ s) = stripL A B := by
  unfold stripL
  rw [h, h']
  simp only [List.drop_zero]
  rw [List.reverse_append, List.reverse_append, cpl_app, List.length_reverse, List.length_append, List.length_append]
  have la := cpl_le_left A.reverse B.reverse
  have lb := cpl_le_right A.reverse B.reverse
  rw [List.length_reverse] at la lb
  rw [show A.length + s.length - (s.length + cpl A.reverse B.reverse) = A.length - cpl A.reverse B.reverse by omega, show B.length + s.length - (s.length + cpl A.reverse B.reverse) = B.length - cpl A.reverse B.reverse by omega]
  rw [List.take_append_of_le_length (by omega), List.take_append_of_le_length (by omega)]
theorem ok2_pre {p A B : List Nat} {F : Nat} (h : ok2 A B F = true) : ok2 (p ++ A) (p ++ B) F = true := by
  unfold ok2 okS at *
  rw [strip_pre, strip_pre]; exact h
theorem ok2_suf {s A B : List Nat} {F : Nat} (h1 : cpl A B = 0) (h2 : cpl (A ++ s) (B ++ s) = 0) (h3 : cpl B A = 0) (h4 : cpl (B ++ s) (A ++ s) = 0) (h : ok2 A B F = true) : ok2 (A ++ s) (B ++ s) F = true := by
  unfold ok2 okS at *
  rw [strip_suf s A B h1 h2, strip_suf s B A h3 h4]; exact h
theorem cpl_heads {x y : Nat} {A B : List Nat} (h : x ≠ y) : cpl (x :: A) (y :: B) = 0 := by
  unfold cpl
  rw [if_neg h]
theorem ok2_sufH {x y : Nat} {s A B : List Nat} {F : Nat} (hne : x ≠ y) (h : ok2 (x :: A) (y :: B) F = true) : ok2 ((x :: A) ++ s) ((y :: B) ++ s) F = true :=
  ok2_suf (cpl_heads hne) (cpl_heads hne) (cpl_heads (Ne.symm hne)) (cpl_heads (Ne.symm hne)) h
theorem q_add (m n : Nat) : q (m + n) = q m ++ q n := by
  unfold q
  rw [List.replicate_append_replicate]
theorem q_succ (n : Nat) : q (n + 1) = 34 :: q n := rfl

noncomputable def k1 (x y : Nat) : Bool := (List.range 7).all fun e => (List.range 7).all fun f => (Nat.beq e 0 && Nat.beq x y) || ok2 [x] (q e ++ y :: q f) (farL 0 0 e f (price x y)).toNat
noncomputable def k2 (x y : Nat) : Bool := (List.range 7).all fun e => (List.range 7).all fun f => (Nat.beq e 0 && Nat.beq x y) || ok2 (x :: q f) (q e ++ [y]) (farL 0 f e 0 (price x y)).toNat
noncomputable def k3 (y : Nat) : Bool := (List.range 7).all fun g => (List.range 7).all fun d => Nat.beq g 0 || ok2 (q g) (y :: q d) (farE g 0 0 d 0 1).toNat
noncomputable def k4 (y : Nat) : Bool := (List.range 7).all fun e => (List.range 7).all fun d => ok2 [] (q e ++ y :: q d) (farE 0 0 e d 0 1).toNat
noncomputable def k5 : Bool := (List.range 7).all fun f => ok2 [] (q f) (2 * f)
theorem k1_1 : k1 120 120 = true := by decide +kernel
theorem k1_2 : k1 120 88 = true := by decide +kernel
theorem k1_3 : k1 120 121 = true := by decide +kernel
theorem k1_4 : k1 88 120 = true := by decide +kernel
theorem k1_5 : k1 88 88 = true := by decide +kernel
theorem k1_6 : k1 88 121 = true := by decide +kernel
theorem k1_7 : k1 121 120 = true := by decide +kernel
theorem k1_8 : k1 121 88 = true := by decide +kernel
theorem k1_9 : k1 121 121 = true := by decide +kernel
theorem k2_1 : k2 120 120 = true := by decide +kernel
theorem k2_2 : k2 120 88 = true := by decide +kernel
theorem k2_3 : k2 120 121 = true := by decide +kernel
theorem k2_4 : k2 88 120 = true := by decide +kernel
theorem k2_5 : k2 88 88 = true := by decide +kernel
theorem k2_6 : k2 88 121 = true := by decide +kernel
theorem k2_7 : k2 121 120 = true := by decide +kernel
theorem k2_8 : k2 121 88 = true := by decide +kernel
theorem k2_9 : k2 121 121 = true := by decide +kernel
theorem k3_1 : k3 120 = true := by decide +kernel
theorem k3_2 : k3 88 = true := by decide +kernel
theorem k3_3 : k3 121 = true := by decide +kernel
theorem k4_1 : k4 120 = true := by decide +kernel
theorem k4_2 : k4 88 = true := by decide +kernel
theorem k4_3 : k4 121 = true := by decide +kernel
theorem k5_1 : k5 = true := by decide +kernel
def Let (x : Nat) : Prop := x = 120 ∨ x = 88 ∨ x = 121
theorem Let.ne {x : Nat} (h : Let x) : x ≠ 34 := by
  unfold Let at h; omega
theorem k1_at {x y e f : Nat} (hx : Let x) (hy : Let y) (he : e ≤ 6) (hf : f ≤ 6) (hn : e ≠ 0 ∨ x ≠ y) : ok2 [x] (q e ++ y :: q f) (farL 0 0 e f (price x y)).toNat = true := by
  have h : k1 x y = true := by
    rcases hx with rfl | rfl | rfl <;> rcases hy with rfl | rfl | rfl
    · exact k1_1
    · exact k1_2
    · exact k1_3
    · exact k1_4
    · exact k1_5
    · exact k1_6
    · exact k1_7
    · exact k1_8
    · exact k1_9
  have h := List.all_eq_true.mp (List.all_eq_true.mp h e (List.mem_range.mpr (by omega))) f (List.mem_range.mpr (by omega))
  rcases Bool.or_eq_true_iff.mp h with h | h
  · have h := Bool.and_eq_true_iff.mp h
    have h1 := Nat.eq_of_beq_eq_true h.1
    have h2 := Nat.eq_of_beq_eq_true h.2
    rcases hn with hn | hn
    · exact absurd h1 hn
    · exact absurd h2 hn
  · exact h
theorem k2_at {x y e f : Nat} (hx : Let x) (hy : Let y) (he : e ≤ 6) (hf : f ≤ 6) (hn : e ≠ 0 ∨ x ≠ y) : ok2 (x :: q f) (q e ++ [y]) (farL 0 f e 0 (price x y)).toNat = true := by
  have h : k2 x y = true := by
    rcases hx with rfl | rfl | rfl <;> rcases hy with rfl | rfl | rfl
    · exact k2_1
    · exact k2_2
    · exact k2_3
    · exact k2_4
    · exact k2_5
    · exact k2_6
    · exact k2_7
    · exact k2_8
    · exact k2_9
  have h := List.all_eq_true.mp (List.all_eq_true.mp h e (List.mem_range.mpr (by omega))) f (List.mem_range.mpr (by omega))
  rcases Bool.or_eq_true_iff.mp h with h | h
  · have h := Bool.and_eq_true_iff.mp h
    have h1 := Nat.eq_of_beq_eq_true h.1
    have h2 := Nat.eq_of_beq_eq_true h.2
    rcases hn with hn | hn
    · exact absurd h1 hn
    · exact absurd h2 hn
  · exact h
theorem k3_at {y g d : Nat} (hy : Let y) (hg : g ≤ 6) (hd : d ≤ 6) (hn : g ≠ 0) : ok2 (q g) (y :: q d) (farE g 0 0 d 0 1).toNat = true := by
  have h : k3 y = true := by
    rcases hy with rfl | rfl | rfl
    · exact k3_1
    · exact k3_2
    · exact k3_3
  have h := List.all_eq_true.mp (List.all_eq_true.mp h g (List.mem_range.mpr (by omega))) d (List.mem_range.mpr (by omega))
  rcases Bool.or_eq_true_iff.mp h with h | h
  · exact absurd (Nat.eq_of_beq_eq_true h) hn
  · exact h
theorem k4_at {y e d : Nat} (hy : Let y) (he : e ≤ 6) (hd : d ≤ 6) : ok2 [] (q e ++ y :: q d) (farE 0 0 e d 0 1).toNat = true := by
  have h : k4 y = true := by
    rcases hy with rfl | rfl | rfl
    · exact k4_1
    · exact k4_2
    · exact k4_3
  exact List.all_eq_true.mp (List.all_eq_true.mp h e (List.mem_range.mpr (by omega))) d (List.mem_range.mpr (by omega))
theorem k5_at {f : Nat} (hf : f ≤ 6) : ok2 [] (q f) (2 * f) = true := List.all_eq_true.mp k5_1 f (List.mem_range.mpr (by omega))
theorem farL_of {a b c d a' b' c' d' p : Int} (h : a - c = a' - c') (h' : b - d = b' - d') : farL a b c d p = farL a' b' c' d' p := by
  have e : a + b - (c + d) = a' + b' - (c' + d') := by omega
  unfold farL
  rw [h, h', e]
theorem farL_comm (a b c d p : Int) : farL a b c d p = farL c d a b p := by
  unfold farL
  rw [show (if c + d - (a + b) < 0 then -(c + d - (a + b)) else c + d - (a + b)) = (if a + b - (c + d) < 0 then -(a + b - (c + d)) else a + b - (c + d)) by split <;> split <;> omega,
    show (if c - a < 0 then -(c - a) else c - a) = (if a - c < 0 then -(a - c) else a - c) by split <;> split <;> omega,
    show (if d - b < 0 then -(d - b) else d - b) = (if b - d < 0 then -(b - d) else b - d) by split <;> split <;> omega]
theorem price_comm (x y : Nat) : price x y = price y x := by
  unfold price
  repeat' split
  all_goals first | rfl | omega
/-- two letters, the first word's quotes ahead the fewer -/
theorem two_le {a b c d x y : Nat} (hx : Let x) (hy : Let y) (hc : c ≤ 6) (hb : b ≤ 6) (hd : d ≤ 6) (hac : a ≤ c) : ok2 (q a ++ x :: q b) (q c ++ y :: q d) (farL a b c d (price x y)).toNat = true := by
  obtain ⟨e, rfl⟩ := Nat.exists_eq_add_of_le hac
  rw [q_add, List.append_assoc]
  refine ok2_pre ?_
  by_cases he : e = 0 ∧ x = y
  · obtain ⟨rfl, rfl⟩ := he
    show ok2 ([x] ++ q b) ([x] ++ q d) _ = true
    refine ok2_pre ?_
    have hp : price x x = 0 := by unfold price; rw [if_pos rfl]
    rw [hp]
    rcases Nat.le_total b d with h | h
    · obtain ⟨f, rfl⟩ := Nat.exists_eq_add_of_le h
      have hF : (farL a b ((a + 0 : Nat) : Int) ((b + f : Nat) : Int) 0).toNat = 2 * f := by
        unfold farL
        repeat' split
        all_goals omega
      rw [hF, q_add]
      have := ok2_pre (p := q b) (k5_at (f := f) (by omega))
      rw [List.append_nil] at this
      exact this
    · obtain ⟨f, rfl⟩ := Nat.exists_eq_add_of_le h
      have hF : (farL a ((d + f : Nat) : Int) ((a + 0 : Nat) : Int) d 0).toNat = 2 * f := by
        unfold farL
        repeat' split
        all_goals omega
      rw [hF, q_add]
      have := ok2_pre (p := q d) (ok2_comm (k5_at (f := f) (by omega)))
      rw [List.append_nil] at this
      exact this
  · have hn : e ≠ 0 ∨ x ≠ y := by omega
    have hz : ∀ r : List Nat, ∃ z r', q e ++ y :: r = z :: r' ∧ x ≠ z ∧ ∀ s : List Nat, q e ++ y :: (r ++ s) = (z :: r') ++ s := by
      intro r
      cases e with
      | zero => exact ⟨y, r, rfl, by omega, fun s => rfl⟩
      | succ e => exact ⟨34, q e ++ y :: r, rfl, hx.ne, fun s => by rw [q_succ]; simp⟩
    rcases Nat.le_total b d with h | h
    · obtain ⟨f, rfl⟩ := Nat.exists_eq_add_of_le h
      have hk := k1_at (e := e) (f := f) hx hy (by omega) (by omega) hn
      rw [show farL (a : Int) b ((a + e : Nat) : Int) ((b + f : Nat) : Int) (price x y) = farL 0 0 e f (price x y) from farL_of (by omega) (by omega)]
      obtain ⟨z, r', e1, hxz, e2⟩ := hz (q f)
      rw [e1] at hk
      rw [show q (b + f) = q f ++ q b by rw [Nat.add_comm, q_add], e2]
      exact ok2_sufH hxz hk
    · obtain ⟨f, rfl⟩ := Nat.exists_eq_add_of_le h
      have hk := k2_at (e := e) (f := f) hx hy (by omega) (by omega) hn
      rw [show farL (a : Int) ((d + f : Nat) : Int) ((a + e : Nat) : Int) d (price x y) = farL 0 f e 0 (price x y) from farL_of (by omega) (by omega)]
      obtain ⟨z, r', e1, hxz, e2⟩ := hz []
      rw [e1] at hk
      rw [show q (d + f) = q f ++ q d by rw [Nat.add_comm, q_add], show y :: q d = y :: ([] ++ q d) from rfl, e2]
      exact ok2_sufH hxz hk
theorem two_ok {a b c d x y : Nat} (hx : Let x) (hy : Let y) (ha : a ≤ 6) (hc : c ≤ 6) (hb : b ≤ 6) (hd : d ≤ 6) : ok2 (q a ++ x :: q b) (q c ++ y :: q d) (farL a b c d (price x y)).toNat = true := by
  rcases Nat.le_total a c with h | h
  · exact two_le hx hy hc hb hd h
  · rw [farL_comm, price_comm]
    exact ok2_comm (two_le hy hx ha hd hb h)
theorem one_ok {a c d y : Nat} (hy : Let y) (ha : a ≤ 6) (hc : c ≤ 6) (hd : d ≤ 6) : ok2 (q a) (q c ++ y :: q d) (farE a 0 c d 0 1).toNat = true := by
  rcases Nat.le_total a c with h | h
  · obtain ⟨e, rfl⟩ := Nat.exists_eq_add_of_le h
    have hF : farE (a : Int) 0 ((a + e : Nat) : Int) d 0 1 = farE 0 0 e d 0 1 := by
      unfold farE
      repeat' split
      all_goals omega
    rw [hF, q_add, List.append_assoc]
    have := ok2_pre (p := q a) (k4_at (y := y) (e := e) (d := d) hy (by omega) hd)
    rw [List.append_nil] at this
    exact this
  · obtain ⟨g, rfl⟩ := Nat.exists_eq_add_of_le h
    by_cases hg : g = 0
    · subst hg
      have hF : farE ((c + 0 : Nat) : Int) 0 c d 0 1 = farE 0 0 ((0 : Nat) : Int) d 0 1 := by
        unfold farE
        repeat' split
        all_goals omega
      rw [hF, Nat.add_zero]
      have := ok2_pre (p := q c) (k4_at (y := y) (e := 0) (d := d) hy (by omega) hd)
      rw [List.append_nil] at this
      exact this
    · have hF : farE ((c + g : Nat) : Int) 0 c d 0 1 = farE g 0 0 d 0 1 := by
        unfold farE
        repeat' split
        all_goals omega
      rw [hF, q_add]
      exact ok2_pre (k3_at hy (by omega) hd hg)
theorem no_ok {a c : Nat} (ha : a ≤ 6) (hc : c ≤ 6) : ok2 (q a) (q c) (farE a 0 c 0 0 0).toNat = true := by
  rcases Nat.le_total a c with h | h
  · obtain ⟨f, rfl⟩ := Nat.exists_eq_add_of_le h
    have hF : (farE (a : Int) 0 ((a + f : Nat) : Int) 0 0 0).toNat = 2 * f := by
      unfold farE
      repeat' split
      all_goals omega
    rw [hF, q_add]
    have := ok2_pre (p := q a) (k5_at (f := f) (by omega))
    rw [List.append_nil] at this
    exact this
  · obtain ⟨f, rfl⟩ := Nat.exists_eq_add_of_le h
    have hF : (farE ((c + f : Nat) : Int) 0 c 0 0 0).toNat = 2 * f := by
      unfold farE
      repeat' split
      all_goals omega
    rw [hF, q_add]
    have := ok2_pre (p := q c) (ok2_comm (k5_at (f := f) (by omega)))
    rw [List.append_nil] at this
    exact this
end Mine
namespace Mine
open PySem PySem.W PyProof.Rows
set_option maxRecDepth 100000
def WordOk (a : Int) (x : Str) (b : Int) : Prop := 0 ≤ a ∧ a ≤ 6 ∧ 0 ≤ b ∧ b ≤ 6 ∧ (x = Str.ofString "x" ∨ x = Str.ofString "X" ∨ x = Str.ofString "y" ∨ (x = Str.ofString "" ∧ b = 0))
noncomputable def RS (a : Int) (x : Str) (b : Int) : Str := Str.ofString "257 \"" ++ textS a x b
def Letter (x : Str) (k : Nat) : Prop := (x = Str.ofString "x" ∧ k = 120) ∨ (x = Str.ofString "X" ∧ k = 88) ∨ (x = Str.ofString "y" ∧ k = 121)
theorem Letter.cs {x : Str} {k : Nat} (h : Letter x k) : Mine.cs x = [k] := by
  rcases h with ⟨rfl, rfl⟩ | ⟨rfl, rfl⟩ | ⟨rfl, rfl⟩ <;> decide +kernel
theorem Letter.let {x : Str} {k : Nat} (h : Letter x k) : Let k := by
  unfold Let
  rcases h with ⟨_, rfl⟩ | ⟨_, rfl⟩ | ⟨_, rfl⟩ <;> decide
theorem cs_empty : cs (Str.ofString "") = [] := by decide +kernel
theorem mul_cs : ∀ n : Nat, n ≤ 6 → cs (Txt.mul (Str.ofString "\"") (n : Int)) = q n
  | 0, _ => by decide +kernel
  | 1, _ => by decide +kernel
  | 2, _ => by decide +kernel
  | 3, _ => by decide +kernel
  | 4, _ => by decide +kernel
  | 5, _ => by decide +kernel
  | 6, _ => by decide +kernel
  | n + 7, h => by omega
theorem text_cs {a b : Nat} {x : Str} (ha : a ≤ 6) (hb : b ≤ 6) : cs (textS (a : Int) x (b : Int)) = q a ++ (cs x ++ q b) := by
  unfold textS
  rw [cs_append, cs_append, mul_cs a ha, mul_cs b hb, List.append_assoc]
theorem text_csL {a b k : Nat} {x : Str} (ha : a ≤ 6) (hb : b ≤ 6) (h : Letter x k) : cs (textS (a : Int) x (b : Int)) = q a ++ k :: q b := by
  rw [text_cs ha hb, h.cs]; rfl
theorem text_csE {a : Nat} (ha : a ≤ 6) : cs (textS (a : Int) (Str.ofString "") ((0 : Nat) : Int)) = q a := by
  rw [text_cs ha (by decide), cs_empty]
  simp [q]
theorem word_nat {a b : Int} {x : Str} (h : WordOk a x b) : ∃ a' b' : Nat, a = a' ∧ b = b' ∧ a' ≤ 6 ∧ b' ≤ 6 ∧ ((∃ k, Letter x k) ∨ (x = Str.ofString "" ∧ b' = 0)) := by
  obtain ⟨h1, h2, h3, h4, h5⟩ := h
  refine ⟨a.toNat, b.toNat, by omega, by omega, by omega, by omega, ?_⟩
  rcases h5 with h | h | h | ⟨h, h'⟩
  · exact Or.inl ⟨120, Or.inl ⟨h, rfl⟩⟩
  · exact Or.inl ⟨88, Or.inr (Or.inl ⟨h, rfl⟩)⟩
  · exact Or.inl ⟨121, Or.inr (Or.inr ⟨h, rfl⟩)⟩
  · exact Or.inr ⟨h, by omega⟩
theorem nat_word {a b : Nat} {x : Str} {k : Nat} (ha : a ≤ 6) (hb : b ≤ 6) (h : Letter x k) : WordOk a x b := by
  refine ⟨by omega, by omega, by omega, by omega, ?_⟩
  rcases h with ⟨h, _⟩ | ⟨h, _⟩ | ⟨h, _⟩
  · exact Or.inl h
  · exact Or.inr (Or.inl h)
  · exact Or.inr (Or.inr (Or.inl h))
theorem nat_wordE {a : Nat} (ha : a ≤ 6) : WordOk a (Str.ofString "") ((0 : Nat) : Int) :=
  ⟨by omega, by omega, by omega, by omega, Or.inr (Or.inr (Or.inr ⟨rfl, rfl⟩))⟩
section
variable {a b c d p : Int} {x y : Str} {k l : Nat}
theorem far_two' (h1 : (x == Str.ofString "") = false) (h2 : (y == Str.ofString "") = false) (h3 : (bif x != y then (bif (Builtin.Str.occurrences (x ++ y) (Str.ofString "y") 0 (x ++ y).length 1).isEmpty then (1 : Int) else 2) else 0) = p) : far a x b c y d = farL a b c d p := by
  unfold far
  rw [h1, h2, h3]; rfl
theorem far_two (h : Letter x k) (h' : Letter y l) : far a x b c y d = farL a b c d (price k l) := by
  rcases h with ⟨rfl, rfl⟩ | ⟨rfl, rfl⟩ | ⟨rfl, rfl⟩ <;> rcases h' with ⟨rfl, rfl⟩ | ⟨rfl, rfl⟩ | ⟨rfl, rfl⟩ <;>
    exact far_two' (by decide +kernel) (by decide +kernel) (by decide +kernel)
theorem Letter.len (h : Letter x k) : x.length = 1 := by
  rw [← cs_length, h.cs]; rfl
theorem Letter.nonempty (h : Letter x k) : (x == Str.ofString "") = false := by
  rcases h with ⟨rfl, rfl⟩ | ⟨rfl, rfl⟩ | ⟨rfl, rfl⟩ <;> decide +kernel
theorem empty_self : (Str.ofString "" == Str.ofString "") = true := by decide +kernel
theorem empty_len : (Str.ofString "").length = 0 := by decide +kernel
theorem far_l (h' : Letter y l) : far a (Str.ofString "") b c y d = farE a b c d 0 1 := by
  unfold far
  rw [empty_self, empty_len, h'.len]; rfl
theorem far_r (h : Letter x k) : far a x b c (Str.ofString "") d = farE a b c d 1 0 := by
  unfold far
  rw [h.nonempty, empty_self, empty_len, h.len]; rfl
theorem far_n : far a (Str.ofString "") b c (Str.ofString "") d = farE a b c d 0 0 := by
  unfold far
  rw [empty_self, empty_len]; rfl
theorem farE_comm (a b c d n k : Int) : farE a b c d n k = farE c d a b k n := by
  unfold farE
  repeat' split
  all_goals omega
theorem ok_words (h : WordOk a x b) (h' : WordOk c y d) : ok2 (cs (textS a x b)) (cs (textS c y d)) (far a x b c y d).toNat = true := by
  obtain ⟨a, b, rfl, rfl, ha, hb, hx⟩ := word_nat h
  obtain ⟨c, d, rfl, rfl, hc, hd, hy⟩ := word_nat h'
  rcases hx with ⟨k, hx⟩ | ⟨rfl, rfl⟩
  · rcases hy with ⟨l, hy⟩ | ⟨rfl, rfl⟩
    · rw [text_csL ha hb hx, text_csL hc hd hy, far_two hx hy]
      exact two_ok hx.let hy.let ha hc hb hd
    · rw [text_csL ha hb hx, text_csE hc, far_r hx, farE_comm]
      exact ok2_comm (one_ok hx.let hc ha hb)
  · rcases hy with ⟨l, hy⟩ | ⟨rfl, rfl⟩
    · rw [text_csE ha, text_csL hc hd hy, far_l hy]
      exact one_ok hy.let ha hc hd
    · rw [text_csE ha, text_csE hc, far_n]
      exact no_ok ha hc
theorem far_bd (h : WordOk a x b) (h' : WordOk c y d) : 0 ≤ far a x b c y d ∧ far a x b c y d ≤ 100 := by
  obtain ⟨a, b, rfl, rfl, ha, hb, hx⟩ := word_nat h
  obtain ⟨c, d, rfl, rfl, hc, hd, hy⟩ := word_nat h'
  rcases hx with ⟨k, hx⟩ | ⟨rfl, rfl⟩
  · rcases hy with ⟨l, hy⟩ | ⟨rfl, rfl⟩
    · rw [far_two hx hy]
      have hp : 0 ≤ price k l ∧ price k l ≤ 2 := by
        unfold price
        repeat' split
        all_goals omega
      generalize price k l = p at *
      unfold farL
      repeat' split
      all_goals omega
    · rw [far_r hx]
      unfold farE
      repeat' split
      all_goals omega
  · rcases hy with ⟨l, hy⟩ | ⟨rfl, rfl⟩
    · rw [far_l hy]
      unfold farE
      repeat' split
      all_goals omega
    · rw [far_n]
      unfold farE
      repeat' split
      all_goals omega
theorem q_len (n : Nat) : (q n).length = n := by simp [q]
theorem text_len (h : WordOk a x b) : (textS a x b).length ≤ 13 := by
  obtain ⟨a, b, rfl, rfl, ha, hb, hx⟩ := word_nat h
  rw [← cs_length, text_cs ha hb, List.length_append, List.length_append, q_len, q_len]
  rcases hx with ⟨k, hx⟩ | ⟨rfl, rfl⟩
  · rw [hx.cs, List.length_singleton]; omega
  · rw [cs_empty, List.length_nil]; omega
theorem q_signs (n : Nat) : Signs (q n) := fun p hp => Or.inl (List.eq_of_mem_replicate hp)
theorem Letter.sign (h : Letter x k) : Sign k := by
  rcases h with ⟨_, rfl⟩ | ⟨_, rfl⟩ | ⟨_, rfl⟩
  · exact Or.inr (Or.inl rfl)
  · exact Or.inr (Or.inr (Or.inl rfl))
  · exact Or.inr (Or.inr (Or.inr (Or.inl rfl)))
theorem text_signs (h : WordOk a x b) : Signs (cs (textS a x b)) := by
  obtain ⟨a, b, rfl, rfl, ha, hb, hx⟩ := word_nat h
  rw [text_cs ha hb]
  intro p hp
  rcases List.mem_append.mp hp with hp | hp
  · exact q_signs _ p hp
  rcases List.mem_append.mp hp with hp | hp
  · rcases hx with ⟨k, hx⟩ | ⟨rfl, rfl⟩
    · rw [hx.cs] at hp
      rw [List.mem_singleton.mp hp]
      exact hx.sign
    · rw [cs_empty] at hp
      cases hp
  · exact q_signs _ p hp
theorem pre_cs : cs (Str.ofString "257 \"") = [50, 53, 55, 32, 34] := by decide +kernel
theorem rs_cs (a : Int) (x : Str) (b : Int) : cs (RS a x b) = [50, 53, 55, 32, 34] ++ cs (textS a x b) := by
  unfold RS
  rw [cs_append, pre_cs]
theorem rs_signs (h : WordOk a x b) : Signs (cs (RS a x b)) := by
  rw [rs_cs]
  intro p hp
  rcases List.mem_append.mp hp with hp | hp
  · simp only [List.mem_cons, List.not_mem_nil, or_false] at hp
    unfold Sign
    omega
  · exact text_signs h p hp
theorem rs_len (_h : WordOk a x b) : (RS a x b).length = 5 + (textS a x b).length := by
  unfold RS
  rw [Str.length_append]; congr 1
theorem full_ok (h : WordOk a x b) (h' : WordOk c y d) : lev (RS a x b) (RS c y d) (far a x b c y d) = far a x b c y d := by
  have l1 := text_len h
  have l2 := text_len h'
  have hok := ok_words h h'
  unfold ok2 at hok
  have hok := (Bool.and_eq_true_iff.mp hok).1
  have hs : okS (cs (RS a x b)) (cs (RS c y d)) (far a x b c y d).toNat = true := by
    rw [rs_cs, rs_cs]
    unfold okS at hok ⊢
    rw [strip_pre]; exact hok
  have ht := lev_ok (rs_signs h) (rs_signs h') (by rw [rs_len h]; omega) (by rw [rs_len h']; omega) hs (far a x b c y d)
  have hb := far_bd h h'
  unfold Tells at ht
  omega
theorem told_ok (h : WordOk a x b) (h' : WordOk c y d) {m : Int} (_h0 : 0 ≤ m) (_h1 : m ≤ 19) : lev (textS c y d) (textS a x b) m = far a x b c y d ∨ (m < far a x b c y d ∧ m < lev (textS c y d) (textS a x b) m) := by
  have l1 := text_len h
  have l2 := text_len h'
  have hok := ok_words h h'
  unfold ok2 at hok
  have hs := (Bool.and_eq_true_iff.mp hok).2
  have ht := lev_ok (text_signs h') (text_signs h) (by omega) (by omega) hs m
  have hb := far_bd h h'
  unfold Tells at ht
  omega
theorem WordOk.x1 (h : WordOk a x b) : x.length ≤ 1 := by
  obtain ⟨_, _, _, _, h⟩ := h
  rcases h with rfl | rfl | rfl | ⟨rfl, _⟩ <;> decide +kernel
theorem WordOk.a0 (h : WordOk a x b) : 0 ≤ a := h.1
theorem WordOk.a10 (h : WordOk a x b) : a ≤ 10 := Int.le_trans h.2.1 (by decide)
theorem WordOk.b0 (h : WordOk a x b) : 0 ≤ b := h.2.2.1
theorem WordOk.b10 (h : WordOk a x b) : b ≤ 10 := Int.le_trans h.2.2.2.1 (by decide)
theorem hA_nat (a : Nat) : hA (a : Int) = ((a / 2 : Nat) : Int) := by
  unfold hA
  rw [Int.fdiv_eq_ediv_of_nonneg _ (by decide)]; rfl
theorem fmod_nat (a : Nat) : Int.fmod (a : Int) 2 = ((a % 2 : Nat) : Int) := by
  rw [Int.fmod_eq_emod_of_nonneg _ (by decide)]; rfl
theorem hX_odd {a : Nat} (h : a % 2 = 1) : hX (a : Int) x = Str.ofString "" := by
  unfold hX
  rw [fmod_nat, h]; rfl
theorem hX_even {a : Nat} (h : a % 2 = 0) : hX (a : Int) x = x := by
  unfold hX
  rw [fmod_nat, h]; rfl
theorem hB_odd {a : Nat} (h : a % 2 = 1) : hB (a : Int) b = ((0 : Nat) : Int) := by
  unfold hB
  rw [fmod_nat, h]; rfl
theorem hB_even {a b : Nat} (h : a % 2 = 0) : hB (a : Int) (b : Int) = ((b / 2 : Nat) : Int) := by
  unfold hB
  rw [fmod_nat, h, Int.fdiv_eq_ediv_of_nonneg _ (by decide)]; rfl
theorem half_ok (h : WordOk a x b) : WordOk (hA a) (hX a x) (hB a b) := by
  obtain ⟨a, b, rfl, rfl, ha, hb, hx⟩ := word_nat h
  rw [hA_nat]
  rcases Nat.mod_two_eq_zero_or_one a with e | e
  · rw [hX_even e, hB_even e]
    rcases hx with ⟨k, hx⟩ | ⟨rfl, rfl⟩
    · exact nat_word (by omega) (by omega) hx
    · exact nat_wordE (by omega)
  · rw [hX_odd e, hB_odd e]
    exact nat_wordE (by omega)
noncomputable def pqC (k : Nat) : Bool := (List.range 7).all fun a => (List.range 7).all fun b => decide (pq (q a ++ k :: q b) = if a % 2 = 1 then q (a / 2) else q (a / 2) ++ k :: q (b / 2))
noncomputable def pqE : Bool := (List.range 7).all fun a => decide (pq (q a) = q (a / 2))
theorem pqC_1 : pqC 120 = true := by decide +kernel
theorem pqC_2 : pqC 88 = true := by decide +kernel
theorem pqC_3 : pqC 121 = true := by decide +kernel
theorem pqE_1 : pqE = true := by decide +kernel
theorem pqC_at {k a b : Nat} (hk : Let k) (ha : a ≤ 6) (hb : b ≤ 6) : pq (q a ++ k :: q b) = if a % 2 = 1 then q (a / 2) else q (a / 2) ++ k :: q (b / 2) := by
  have h : pqC k = true := by
    rcases hk with rfl | rfl | rfl
    · exact pqC_1
    · exact pqC_2
    · exact pqC_3
  exact of_decide_eq_true (List.all_eq_true.mp (List.all_eq_true.mp h a (List.mem_range.mpr (by omega))) b (List.mem_range.mpr (by omega)))
theorem pqE_at {a : Nat} (ha : a ≤ 6) : pq (q a) = q (a / 2) := of_decide_eq_true (List.all_eq_true.mp pqE_1 a (List.mem_range.mpr (by omega)))
theorem parse_ok (h : WordOk a x b) : pqS (RS a x b) = textS (hA a) (hX a x) (hB a b) := by
  apply cs_ext
  show pq ((cs (RS a x b)).drop 5) = _
  rw [rs_cs]
  show pq (cs (textS a x b)) = _
  obtain ⟨a, b, rfl, rfl, ha, hb, hx⟩ := word_nat h
  rw [hA_nat]
  rcases Nat.mod_two_eq_zero_or_one a with e | e
  · rw [hX_even e, hB_even e]
    rcases hx with ⟨k, hx⟩ | ⟨rfl, rfl⟩
    · rw [text_csL ha hb hx, text_csL (by omega) (by omega) hx, pqC_at hx.let ha hb, if_neg (by omega)]
    · rw [text_csE ha, pqE_at ha, text_csE (by omega)]
  · rw [hX_odd e, hB_odd e]
    rcases hx with ⟨k, hx⟩ | ⟨rfl, rfl⟩
    · rw [text_csL ha hb hx, text_csE (by omega), pqC_at hx.let ha hb, if_pos e]
    · rw [text_csE ha, pqE_at ha, text_csE (by omega)]
theorem rs_3 (h : WordOk a x b) : (Txt.slice (RS a x b) none (some 3) != Str.ofString "257") = false := by
  have hl := rs_len h
  have e : Txt.slice (RS a x b) none (some 3) = Str.ofString "257" := by
    apply cs_ext
    show cs (Txt.slice (RS a x b) none (some ((3 : Nat) : Int))) = _
    rw [to_cs (RS a x b) 3 (by omega), rs_cs]
    show [50, 53, 55] = cs (Str.ofString "257")
    decide +kernel
  rw [e]; simp
theorem rs_35 (h : WordOk a x b) : (Txt.slice (RS a x b) (some 3) (some 5) != Str.ofString " \"") = false := by
  have hl := rs_len h
  have e : Txt.slice (RS a x b) (some 3) (some 5) = Str.ofString " \"" := by
    rw [eq_of_beq (slice_closesL (x := RS a x b) (i := 3) (j := 5) (by omega) (by omega) (by omega))]
    apply cs_ext
    show ((cs (RS a x b)).drop 3).take 2 = _
    rw [rs_cs]
    show [32, 34] = cs (Str.ofString " \"")
    decide +kernel
  rw [e]; simp
theorem word_start (n : Int) : WordOk (n.fmod 7) (Txt.item (Str.ofString "xXy") ((n.fdiv 49).fmod 3)) ((n.fdiv 7).fmod 7) := by
  have h3 : 0 ≤ (n.fdiv 49).fmod 3 ∧ (n.fdiv 49).fmod 3 < 3 := by
    rw [Int.fmod_eq_emod_of_nonneg _ (by decide)]; omega
  have hx : Txt.item (Str.ofString "xXy") ((n.fdiv 49).fmod 3) = Str.ofString "x" ∨ Txt.item (Str.ofString "xXy") ((n.fdiv 49).fmod 3) = Str.ofString "X" ∨ Txt.item (Str.ofString "xXy") ((n.fdiv 49).fmod 3) = Str.ofString "y" := by
    generalize (n.fdiv 49).fmod 3 = r at h3
    rcases (by omega : r = 0 ∨ r = 1 ∨ r = 2) with rfl | rfl | rfl
    · exact Or.inl (by decide +kernel)
    · exact Or.inr (Or.inl (by decide +kernel))
    · exact Or.inr (Or.inr (by decide +kernel))
  generalize Txt.item (Str.ofString "xXy") ((n.fdiv 49).fmod 3) = x at hx
  have h1 : 0 ≤ n.fmod 7 ∧ n.fmod 7 ≤ 6 := by
    rw [Int.fmod_eq_emod_of_nonneg _ (by decide)]; omega
  have h2 : 0 ≤ (n.fdiv 7).fmod 7 ∧ (n.fdiv 7).fmod 7 ≤ 6 := by
    rw [Int.fmod_eq_emod_of_nonneg _ (by decide)]; omega
  exact ⟨h1.1, h1.2, h2.1, h2.2, by
    rcases hx with h | h | h
    · exact Or.inl h
    · exact Or.inr (Or.inl h)
    · exact Or.inr (Or.inr (Or.inl h))⟩
theorem text_ok (h : WordOk a x b) : PyData.strOk (textS a x b) = true := by
  have hs := text_signs h
  unfold PyData.strOk
  rw [← Array.all_toList, List.all_eq_true]
  intro p hp
  have := hs p hp
  unfold Sign at this
  exact decide_eq_true (by omega)
theorem rs18 (h : WordOk a x b) : (Str.ofString "257 \"" ++ textS a x b).length ≤ 18 := by
  have := rs_len h
  have := text_len h
  show (RS a x b).length ≤ 18
  omega
end
end Mine
namespace Mine
open PySem PySem.W PyProof.Rows PySem.Spec PyProof.V PySem.Calls
set_option maxRecDepth 100000
theorem ints_filterMap {vs : List Value} {ns : List Int} (hi : IntsAre vs ns) : ∀ l : List Nat, ∃ ms, IntsAre (l.filterMap (vs[·]?)) ms
  | [] => ⟨[], .nil⟩
  | j :: l => by
    obtain ⟨ms, h⟩ := ints_filterMap hi l
    rw [List.filterMap_cons]
    cases e : vs[j]? with
    | none => exact ⟨ms, h⟩
    | some v =>
      have hj : j < ns.length := by
        rw [← hi.length]; exact (List.getElem?_eq_some_iff.mp e).1
      obtain ⟨t, ht⟩ := hi.get j ns[j] (by simp [hj])
      rw [e] at ht
      cases ht
      exact ⟨_, .cons _ _ h⟩
theorem sum_slice {prog : Program} {w : World} {A : Around} {E : Value → Shared → Prop} {s : Shared} {h₀ : Heap} {L l : Addr} {m : Str → Option Value} {news : List (Addr × Obj)} {vs : List Value} {ns : List Int} {lo hi st : Option Int} {n : Nat} {Q : Value → Shared → Prop}
    (hh : A.handled = none) (F : Fr h₀ L s.heap m) (N : News h₀ L s.heap news) (hm : (l, ({ cls := .type "list", data := .seq (slicePick vs.toArray lo hi st) n } : Obj)) ∈ news) (hi' : IntsAre vs ns)
    (h : ∀ i h' tk t', Fr h₀ L h' m → News h₀ L h' news → Q (.int i t') { s with heap := h', toks := tk }) :
    wpAny (model prog w) A (call (.builtin "sum") [.ref l]) Q E s := by
  obtain ⟨ms, hms⟩ := ints_filterMap hi' (sliceRange (sliceBounds lo hi st vs.toArray.size).1 (sliceBounds lo hi st vs.toArray.size).2.1 (sliceBounds lo hi st vs.toArray.size).2.2)
  refine sumK hh F N (vs := (sliceRange (sliceBounds lo hi st vs.toArray.size).1 (sliceBounds lo hi st vs.toArray.size).2.1 (sliceBounds lo hi st vs.toArray.size).2.2).filterMap (vs[·]?)) ⟨_, (N _ hm).1, rfl, n, ?_⟩ hms (fun h' tk t' F' N' => h _ h' tk t' F' N')
  simp [slicePick]
theorem news_mem {h₀ h : Heap} {L : Addr} {news : List (Addr × Obj)} {p : Addr × Obj} (N : News h₀ L h news) (hm : p ∈ news) : News h₀ L h (p :: news) := fun q hq => by
  rcases List.mem_cons.mp hq with rfl | hq
  · exact N _ hm
  · exact N _ hq
theorem news_tail {h₀ h : Heap} {L : Addr} {news : List (Addr × Obj)} {p : Addr × Obj} (N : News h₀ L h (p :: news)) : News h₀ L h news := fun q hq => N q (.tail _ hq)
theorem text_m {news : List (Addr × Obj)} {l : Addr} {a b : Int} {x : Str} {ta tx tb : Tok} (hm : (l, tup3 a ta x tx b tb) ∈ news) (hw : WordOk a x b) :
    ClW 2 news 67 [.ref l] (fun t => .str (textS a x b) t) := fun w mean mg mb dp un gd cn cs ad ccd cl outer A₀ base h₀ L m s Q E hB hF hK hN hT hcs hd hu hret =>
  text_c l a b x ta tx tb news hw.a0 hw.a10 hw.b0 hw.b10 hw.x1 w mean mg mb dp un gd cn cs ad ccd cl outer A₀ base h₀ L m s Q E hB hF hK (news_mem hN hm) hT hcs hd hu (fun t h' tk F N => hret t h' tk F (news_tail N))
theorem far_m {news : List (Addr × Obj)} {l l' : Addr} {a b c d : Int} {x y : Str} {ta tx tb tc ty td : Tok} (hm : (l, tup3 a ta x tx b tb) ∈ news) (hm' : (l', tup3 c tc y ty d td) ∈ news) (hw : WordOk a x b) (hw' : WordOk c y d) :
    ClW 2 news 81 [.ref l, .ref l'] (fun t => .int (far a x b c y d) t) := fun w mean mg mb dp un gd cn cs ad ccd cl outer A₀ base h₀ L m s Q E hB hF hK hN hT hcs hd hu hret =>
  far_c l l' a b c d x y ta tx tb tc ty td news hw.a0 hw.a10 hw.b0 hw.b10 hw.x1 hw'.a0 hw'.a10 hw'.b0 hw'.b10 hw'.x1 w mean mg mb dp un gd cn cs ad ccd cl outer A₀ base h₀ L m s Q E hB hF hK (news_mem (news_mem hN hm') (.tail _ hm)) hT hcs hd hu (fun t h' tk F N => hret t h' tk F (news_tail (news_tail N)))
theorem ne_strs {prog : Program} {w : World} {A : Around} {E : Value → Shared → Prop} {s : Shared} {h₀ : Heap} {L a b : Addr} {news : List (Addr × Obj)} {X Y Z : Str} {t1 t2 t3 t4 t5 t6 : Tok} {Q : Value → Shared → Prop}
    (N : News h₀ L s.heap news) (ha : (a, LCg.lst [.str X t1, .str Y t2, .str Z t3]) ∈ news) (hb : (b, LCg.lst [.str X t4, .str Y t5, .str Z t6]) ∈ news) (oX : PyData.strOk X = true) (oY : PyData.strOk Y = true) (oZ : PyData.strOk Z = true) (hu : A.units + 64 < cLine) (h : Q (.bool false) s) :
    wpAny (model prog w) A (compareOp .NotEq (.ref a) (.ref b)) Q E s := by
  refine ne_dataH (reads_list_at (News.get N ha) rfl rfl (ReadsAll.cons (Reads.str _ _) (ReadsAll.cons (Reads.str _ _) (ReadsAll.cons (Reads.str _ _) ReadsAll.nil)))) (reads_list_at (News.get N hb) rfl rfl (ReadsAll.cons (Reads.str _ _) (ReadsAll.cons (Reads.str _ _) (ReadsAll.cons (Reads.str _ _) ReadsAll.nil)))) (by simp [SeqAt.shaped, PyData.canLay0, PyData.canLayAll0, PyData.depth, PyData.depthAll, oX, oY, oZ]) (by simp [SeqAt.shaped, PyData.canLay0, PyData.canLayAll0, PyData.depth, PyData.depthAll, oX, oY, oZ]) hu ?_
  simp only [PyData.eqv, PyData.eqvAll, beq_self_eq_true, Bool.and_true, Bool.not_true]
  exact h
theorem ite_bne {z : Int} {P Q : Prop} (h : Q) : if (z != z) = true then P else Q := by
  rw [if_neg (by simp)]; exact h
theorem told_no1 {f r m : Int} (t : r = f ∨ (m < f ∧ m < r)) (h : (r != f) = true) (h' : f ≤ m) : False := by
  have : r ≠ f := by simpa using h
  omega
theorem told_no2 {f r m : Int} (t : r = f ∨ (m < f ∧ m < r)) (h : (r != f) = true) (h' : r ≤ m) : False := by
  have : r ≠ f := by simpa using h
  omega
theorem RangeRest.ind {prog : Program} {w : World} {A : Around} {E : Value → Shared → Prop} {s : Shared} {env : Env} {h₀ : Heap} {x : Str} {body : List Stmt} {Q : Flow → Shared → Prop} {I : Addr} {a : Int} {n : Nat} (J : (Str → Option Value) → List (Addr × Obj) → Prop)
    (turn : ∀ (i : Nat) m news t h tk (it : Obj) (rest : (Str → Option Value) → List (Addr × Obj) → Prop), J m news → (∀ m' news', J m' news' → rest m' news') → Fr h₀ env.locals h (fun y => if y = x then some (.int (a + (i : Int)) t) else m y) → News h₀ env.locals h ((I, it) :: news) →
      wpAny (model prog w) A (execs body env) (UnrPost h₀ env.locals { s with heap := h, toks := tk } I it rest Q) E { s with heap := h, toks := tk })
    (done : ∀ m news h tk, J m news → Fr h₀ env.locals h m → News h₀ env.locals h news → Q .next { s with heap := h, toks := tk }) :
    ∀ (k i : Nat) m news, J m news → RangeRest prog w A E h₀ env x body Q s I a n k i m news
  | 0, _, m, news, hj => fun h tk F N => done m news h tk hj F N
  | k + 1, i, m, news, hj => fun t h tk F N => turn i m news t h tk _ _ hj (fun m' news' hj' => RangeRest.ind J turn done k (i + 1) m' news' hj') F N
theorem compEnd_drop2 {h₀ : Heap} {L I C D : Addr} {m : Str → Option Value} {s₁ : Shared} {oI oC oD : Obj} {S : List (Addr × Obj) → Prop} {rest : Value → List (Addr × Obj) → Prop} {y : Value} {h' : Heap} {tk : Nat} {news' : List (Addr × Obj)} {p1 p2 : Addr × Obj}
    (F : Fr h₀ L h' m) (N : News h₀ L h' (p1 :: p2 :: (I, oI) :: (C, oC) :: (D, oD) :: news')) (off : LCg.Off3 I C D news') (hS : S news') (r : rest y news') :
    LCg.CompEnd h₀ L m s₁ I oI C oC D oD S rest y { s₁ with heap := h', toks := tk } := LCg.CompEnd.intro F N news' (fun _ hp => .tail _ (.tail _ hp)) off hS r
theorem compEnd_plain {h₀ : Heap} {L I C D : Addr} {m : Str → Option Value} {s₁ : Shared} {oI oC oD : Obj} {S : List (Addr × Obj) → Prop} {rest : Value → List (Addr × Obj) → Prop} {y : Value} {h' : Heap} {tk : Nat} {news' : List (Addr × Obj)}
    (F : Fr h₀ L h' m) (N : News h₀ L h' ((I, oI) :: (C, oC) :: (D, oD) :: news')) (off : LCg.Off3 I C D news') (hS : S news') (r : rest y news') :
    LCg.CompEnd h₀ L m s₁ I oI C oC D oD S rest y { s₁ with heap := h', toks := tk } := LCg.CompEnd.intro F N news' (fun _ hp => hp) off hS r
theorem compEnd_push {h₀ : Heap} {L I C D : Addr} {m : Str → Option Value} {s₁ : Shared} {oI oC oD : Obj} {S : List (Addr × Obj) → Prop} {rest : Value → List (Addr × Obj) → Prop} {y : Value} {h' : Heap} {tk : Nat} {p1 : Addr × Obj} {news' : List (Addr × Obj)}
    (F : Fr h₀ L h' m) (N : News h₀ L h' (p1 :: (I, oI) :: (C, oC) :: (D, oD) :: news')) (lt : ∀ p ∈ (I, oI) :: (C, oC) :: (D, oD) :: news', p.1 < p1.1) (off : LCg.Off3 I C D news') (hS : S (p1 :: news')) (r : rest y (p1 :: news')) :
    LCg.CompEnd h₀ L m s₁ I oI C oC D oD S rest y { s₁ with heap := h', toks := tk } := LCg.CompEnd.intro F N (p1 :: news') (fun p hp => by
      simp only [List.mem_cons] at hp ⊢
      rcases hp with hp | hp | hp | hp | hp
      · exact Or.inr (Or.inl hp)
      · exact Or.inr (Or.inr (Or.inl hp))
      · exact Or.inr (Or.inr (Or.inr (Or.inl hp)))
      · exact Or.inl hp
      · exact Or.inr (Or.inr (Or.inr (Or.inr hp)))) ⟨⟨Nat.ne_of_gt (lt (I, oI) (.head _)), Nat.ne_of_gt (lt (C, oC) (.tail _ (.head _))), Nat.ne_of_gt (lt (D, oD) (.tail _ (.tail _ (.head _))))⟩, off⟩ hS r
theorem fr3 {h₀ h : Heap} {L : Addr} {m : Str → Option Value} {x y z : Str} {u v w : Value} (F : Fr h₀ L h m) (h1 : m x = some u) (h2 : m y = some v) (h3 : m z = some w) :
    ∃ m' : Str → Option Value, Fr h₀ L h (fun k => if k = x then some u else if k = y then some v else if k = z then some w else m' k) := by
  refine ⟨m, ?_⟩
  have e : m = fun k => if k = x then some u else if k = y then some v else if k = z then some w else m k := by
    funext k
    by_cases a : k = x
    · simp [a, h1]
    · by_cases b : k = y
      · rw [if_neg a, if_pos b, b, h2]
      · by_cases c : k = z
        · rw [if_neg a, if_neg b, if_pos c, c, h3]
        · simp [a, b, c]
  rw [e] at F
  exact F
theorem news4 {h₀ h : Heap} {L : Addr} {p0 p1 p2 p3 : Addr × Obj} {r : List (Addr × Obj)} (N : News h₀ L h (p0 :: p1 :: p2 :: p3 :: r)) : News h₀ L h r := fun q hq => N q (.tail _ (.tail _ (.tail _ (.tail _ hq))))

/-- a piece that stores nothing and goes on -/
structure Stays (h₀ : Heap) (L : Addr) (s : Shared) (m : Str → Option Value) (news : List (Addr × Obj)) (fl : Flow) (s₃ : Shared) : Prop where
  flow : fl = .next
  rest : ∃ h' tk', s₃ = { s with heap := h', toks := tk' } ∧ Fr h₀ L h' m ∧ News h₀ L h' news
theorem Stays.of {h₀ : Heap} {L : Addr} {s : Shared} {m : Str → Option Value} {news : List (Addr × Obj)} {h' : Heap} {tk' : Nat} (F : Fr h₀ L h' m) (N : News h₀ L h' news) : Stays h₀ L s m news .next { s with heap := h', toks := tk' } := ⟨rfl, h', tk', rfl, F, N⟩
theorem stays_cut {M : Model} {A : Around} {t : Sem Flow} {E : Value → Shared → Prop} {Q : Flow → Shared → Prop} {s : Shared} {h₀ : Heap} {L : Addr} {m : Str → Option Value} {news : List (Addr × Obj)}
    (F : Fr h₀ L s.heap m) (N : News h₀ L s.heap news) (H : wpAny M A t (Stays h₀ L s m news) E s)
    (K : ∀ h' tk', Fr h₀ L h' m → News h₀ L h' news → Q .next { s with heap := h', toks := tk' }) : wpAny M A t Q E s :=
  wpAny_mono H (fun f s₃ p => by obtain ⟨rfl, h', tk', rfl, F, N⟩ := p; exact K h' tk' F N) (fun _ _ e => e)
theorem full_e {a b c d : Int} {x y : Str} {ta tb tm : Tok} (hw : WordOk a x b) (hw' : WordOk c y d) : Cl 4 28 [.str (Str.ofString "257 \"" ++ textS a x b) ta, .str (Str.ofString "257 \"" ++ textS c y d) tb, .int (far a x b c y d) tm] (fun t => .int (far a x b c y d) t) := by
  have h1 : (RS a x b).length ≤ 100 := by have := rs_len hw; have := text_len hw; omega
  have h2 : (RS c y d).length ≤ 100 := by have := rs_len hw'; have := text_len hw'; omega
  have h := lev_c (RS a x b) (RS c y d) ta tb (far a x b c y d) tm h1 h2 (far_bd hw hw').1 (far_bd hw hw').2
  rw [full_ok hw hw'] at h
  exact h
theorem told_e {a b c d m : Int} {x y : Str} {ta tb tm : Tok} (hw : WordOk a x b) (hw' : WordOk c y d) (h0 : 0 ≤ m) (h1 : m ≤ 19) : Cl 4 28 [.str (textS c y d) ta, .str (textS a x b) tb, .int m tm] (fun t => .int (lev (textS c y d) (textS a x b) m) t) :=
  lev_c _ _ ta tb m tm (Nat.le_trans (text_len hw') (by decide)) (Nat.le_trans (text_len hw) (by decide)) h0 (by omega)
theorem parse_e {a b : Int} {x : Str} {tx : Tok} (hw : WordOk a x b) : Cl 2 60 [.str (Str.ofString "257 \"" ++ textS a x b) tx] (fun t => .str (textS (hA a) (hX a x) (hB a b)) t) := by
  have h1 : (RS a x b).length ≤ 100 := by have := rs_len hw; have := text_len hw; omega
  have h := parse_c (RS a x b) tx h1 (by rw [rs_len hw]; omega) (rs_3 hw) (rs_35 hw)
  rw [parse_ok hw] at h
  exact h
theorem halved_m {news : List (Addr × Obj)} {l : Addr} {a b : Int} {x : Str} {ta tx tb : Tok} (hm : (l, tup3 a ta x tx b tb) ∈ news) (hw : WordOk a x b) :
    ∀ (w : World) (mean : ExcName → Option Value) (mg mb : Str → Option Value)
    (dp un : Nat) (gd : Option (List Code)) (cn : Str) (cs : Scope) (ad : Addr) (ccd : Value) (cl : List (Str × Addr)) (outer : List Env) (A₀ : Around) (base h₀ : Heap) (L : Addr) (m : Str → Option Value) (s : Shared) (Q E : Value → Shared → Prop),
    Below A₀ base outer h₀ → Fr h₀ L s.heap m → (hd.heap_39 w.params).In h₀ → News h₀ L s.heap news → Top hd.view_39 (looseW hd.view_39 []) mean mg mb h₀ → cs.kind = .function →
    dp + 2 < recursionLimit → un + 10 * 2 < cLine → (∀ (D : Addr) (t1 t2 t3 : Tok) (h' : Heap) (tk' : Nat), Fr h₀ L h' m → News h₀ L h' ((D, tup3 (hA a) t1 (hX a x) t2 (hB a b) t3) :: news) → (∀ p ∈ news, p.1 < D) → Q (.ref D) { s with heap := h', toks := tk' }) →
      wpAny (model PySem.Challenge.rw_pe0084_01.row.prog w) (ktrTop dp un gd cn cs L ad ccd cl outer) (call (.ref 74) [.ref l]) Q E s := fun w mean mg mb dp un gd cn cs ad ccd cl outer A₀ base h₀ L m s Q E hB hF hK hN hT hcs hd hu hret =>
  halved_c l a b x ta tx tb news hw.a0 hw.a10 hw.b0 hw.b10 hw.x1 w mean mg mb dp un gd cn cs ad ccd cl outer A₀ base h₀ L m s Q E hB hF hK (news_mem hN hm) hT hcs hd hu (fun D t1 t2 t3 h' tk F N lt => hret D t1 t2 t3 h' tk F (fun q hq => by
    rcases List.mem_cons.mp hq with rfl | hq
    · exact N _ (.head _)
    · exact N _ (.tail _ (.tail _ hq))) (fun p hp => lt p (.tail _ hp)))
/-- the reading loop's state: three words -/
def JW (bd : Int) (I : Addr) (m : Str → Option Value) (news : List (Addr × Obj)) : Prop :=
  ∃ (tb : Tok) (lw l1 l2 l3 : Addr) (a1 b1 a2 b2 a3 b3 : Int) (x1 x2 x3 : Str) (p1 p2 p3 q1 q2 q3 r1 r2 r3 : Tok),
    m (Str.ofString "words") = some (.ref lw) ∧ m (Str.ofString "bound") = some (.int bd tb) ∧
    news = [(lw, LCg.lst [.ref l1, .ref l2, .ref l3]), (l1, tup3 a1 p1 x1 q1 b1 r1), (l2, tup3 a2 p2 x2 q2 b2 r2), (l3, tup3 a3 p3 x3 q3 b3 r3)] ∧
    WordOk a1 x1 b1 ∧ WordOk a2 x2 b2 ∧ WordOk a3 x3 b3 ∧ lw ≠ I ∧ l1 ≠ I ∧ l2 ≠ I ∧ l3 ≠ I
theorem to4 {h₀ h : Heap} {L : Addr} {p0 p1 p2 p3 p4 p5 : Addr × Obj} (N : News h₀ L h [p0, p1, p2, p3, p4, p5]) : News h₀ L h [p0, p3, p2, p1] := fun q hq => by
  simp only [List.mem_cons, List.not_mem_nil, or_false] at hq
  rcases hq with rfl | rfl | rfl | rfl
  · exact N _ (by simp)
  · exact N _ (by simp)
  · exact N _ (by simp)
  · exact N _ (by simp)
theorem bd_ok (n : Int) : 0 ≤ n.fmod 20 ∧ n.fmod 20 ≤ 19 := by
  rw [Int.fmod_eq_emod_of_nonneg _ (by decide)]; omega
end Mine
namespace Mine
open PySem PySem.W PyProof.Rows
set_option maxRecDepth 100000
set_option maxHeartbeats 16000000
local macro_rules | `(tactic| walk_at "call builtin:sum") => `(tactic| (k_here; (with_reducible show wpAny _ _ (call (Value.builtin "sum") [Value.ref _]) _ _ _); (with_unfolding_all refine' sum_slice ?k0 ?k1 ?k2 ?k3 ?k4 ?_; (case k0 => with_unfolding_all rfl); (case k1 => k_asm); (case k2 => k_asm); (case k3 => with_unfolding_all exact List.Mem.head _); (case k4 => assumption); k_whole); intro si' h' tk' t' F' N'))
local macro_rules | `(tactic| walk_at "CompEnd") => `(tactic| (k_here; (with_reducible show LCg.CompEnd _ _ _ _ _ _ _ _ _ _ _ _ (Value.int _ _) _); k_dflt (refine compEnd_drop2 (by assumption) (by assumption) (by lcg_off) (by exact True.intro) ?_)))
local macro_rules | `(tactic| walk_at "CompEnd") => `(tactic| (k_here; (with_reducible show LCg.CompEnd _ _ _ _ _ _ _ _ _ _ _ _ (Value.str _ _) _); (rename Fr _ _ _ _ => qF); (rename News _ _ _ _ => qN); k_dflt (refine compEnd_plain qF qN (by (simp only [LCg.Off3, and_true]; with_reducible assumption)) (Or.inr ⟨_, by k_mem, rfl, _, rfl⟩) ?_); (repeat (with_reducible rename _ ∧ _ => z; clear z))))
local macro_rules | `(tactic| walk_at "call ref") => `(tactic| (k_here; (with_reducible show wpAny _ _ (call (Value.ref 67) [Value.ref _]) _ _ _); k_dflt (refine' text_m ?m1 ?b1 _ _ _ _ _ _ _ _ _ _ _ _ _ _ _ _ _ _ _ _ _ ?k1 ?k2 ?k3 ?k4 ?k5 ?kK ?kd ?ku ?_; (case k4 => k_asm); (case k1 => k_asm); (case k2 => k_asm); (case k3 => k_asm); (case k5 => k_asm); (case kK => exact rfl); (case kd => first | decide | (dsimp only [Around.deeper]; decide)); (case ku => first | decide | (dsimp only [Around.deeper]; decide)); (case m1 => k_mem); (case b1 => assumption)); intro t9 h9 tk9 F9 N9; (try dsimp only)))
local macro_rules | `(tactic| walk_at "call ref") => `(tactic| (k_here; (with_reducible show wpAny _ _ (call (Value.ref 81) [Value.ref _, Value.ref _]) _ _ _); k_dflt (refine' far_m ?m1 ?m2 ?b1 ?c1 _ _ _ _ _ _ _ _ _ _ _ _ _ _ _ _ _ _ _ _ _ ?k1 ?k2 ?k3 ?k4 ?k5 ?kK ?kd ?ku ?_; (case k4 => k_asm); (case k1 => k_asm); (case k2 => k_asm); (case k3 => k_asm); (case k5 => k_asm); (case kK => exact rfl); (case kd => first | decide | (dsimp only [Around.deeper]; decide)); (case ku => first | decide | (dsimp only [Around.deeper]; decide)); (case m1 => k_mem); (case m2 => k_mem); (case b1 => assumption); (case c1 => assumption)); intro t9 h9 tk9 F9 N9; (try dsimp only)))
local macro_rules | `(tactic| walk_at "call ref") => `(tactic| (k_here; (with_reducible show wpAny _ _ (call (Value.ref 88) [Value.int _ _]) _ _ _); k_dflt (refine' whole_c _ _ _ _ _ _ _ _ _ _ _ _ _ _ _ _ _ _ _ _ _ _ _ _ ?k1 ?k2 ?k3 ?k4 ?k5 ?kK ?kd ?ku ?_; (case k4 => k_asm); (case k1 => k_asm); (case k2 => k_asm); (case k3 => k_asm); (case k5 => k_asm); (case kK => exact rfl); (case kd => first | decide | (dsimp only [Around.deeper]; decide)); (case ku => first | decide | (dsimp only [Around.deeper]; decide))); intro t9 h9 tk9 F9 N9; (try dsimp only)))
local macro_rules | `(tactic| walk_at "call ref") => `(tactic| (k_here; (with_reducible show wpAny _ _ (call (Value.ref 28) [Value.str (Str.ofString "257 \"" ++ textS _ _ _) _, Value.str _ _, Value.int _ _]) _ _ _); k_dflt (refine' full_e ?b1 ?b2 _ _ _ _ _ _ _ _ _ _ _ _ _ _ _ _ _ _ _ _ _ _ ?k1 ?k2 ?k3 ?k4 ?k5 ?kK ?kd ?ku ?_; (case k4 => k_asm); (case k1 => k_asm); (case k2 => k_asm); (case k3 => k_asm); (case k5 => k_asm); (case kK => exact rfl); (case kd => first | decide | (dsimp only [Around.deeper]; decide)); (case ku => first | decide | (dsimp only [Around.deeper]; decide)); (case b1 => assumption); (case b2 => assumption)); intro t9 h9 tk9 F9 N9; (try dsimp only)))
local macro_rules | `(tactic| walk_at "call ref") => `(tactic| (k_here; (with_reducible show wpAny _ _ (call (Value.ref 28) [Value.str (textS _ _ _) _, Value.str _ _, Value.int _ _]) _ _ _); k_dflt (refine' told_e ?b1 ?b2 ?b3 ?b4 _ _ _ _ _ _ _ _ _ _ _ _ _ _ _ _ _ _ _ _ _ _ ?k1 ?k2 ?k3 ?k4 ?k5 ?kK ?kd ?ku ?_; (case k4 => k_asm); (case k1 => k_asm); (case k2 => k_asm); (case k3 => k_asm); (case k5 => k_asm); (case kK => exact rfl); (case kd => first | decide | (dsimp only [Around.deeper]; decide)); (case ku => first | decide | (dsimp only [Around.deeper]; decide)); (case b1 => assumption); (case b2 => assumption); (case b3 => assumption); (case b4 => assumption)); intro t9 h9 tk9 F9 N9; (try dsimp only)))
local macro_rules | `(tactic| walk_at "call ref") => `(tactic| (k_here; (with_reducible show wpAny _ _ (call (Value.ref 60) [Value.str _ _]) _ _ _); k_dflt (refine' parse_e ?b1 _ _ _ _ _ _ _ _ _ _ _ _ _ _ _ _ _ _ _ _ _ _ ?k1 ?k2 ?k3 ?k4 ?k5 ?kK ?kd ?ku ?_; (case k4 => k_asm); (case k1 => k_asm); (case k2 => k_asm); (case k3 => k_asm); (case k5 => k_asm); (case kK => exact rfl); (case kd => first | decide | (dsimp only [Around.deeper]; decide)); (case ku => first | decide | (dsimp only [Around.deeper]; decide)); (case b1 => assumption)); intro t9 h9 tk9 F9 N9; (try dsimp only)))
local macro_rules | `(tactic| walk_at "call ref") => `(tactic| (k_here; (with_reducible show wpAny _ _ (call (Value.ref 74) [Value.ref _]) _ _ _); k_dflt (refine' halved_m ?m1 ?b1 _ _ _ _ _ _ _ _ _ _ _ _ _ _ _ _ _ _ _ _ _ ?k1 ?k2 ?k3 ?k4 ?k5 ?kK ?kd ?ku ?_; (case k4 => k_asm); (case k1 => k_asm); (case k2 => k_asm); (case k3 => k_asm); (case k5 => k_asm); (case kK => exact rfl); (case kd => first | decide | (dsimp only [Around.deeper]; decide)); (case ku => first | decide | (dsimp only [Around.deeper]; decide)); (case m1 => k_mem); (case b1 => assumption)); intro D' t1' t2' t3' h' tk' F' N' l1; (try k_lt l1); (try dsimp only)))
theorem lawHolds : PySem.Challenge.rw_pe0084_01.Holds := hd (by
  w_on
  k_go0
  all_goals try k_fold
  refine wpAny_execs_cons ?_
  k_dflt (refine LCg.Assign_ListComp_U (F₀ := by k_asm) (by rfl) (by with_unfolding_all rfl) (by with_unfolding_all rfl) (by decide) (by rfl) (by decide) (by rfl) (by rfl) (by rfl) ?_)
  repeat' ((fail_if_success (with_reducible show LCg.CompSrc _ _ _ _ _ _ _ _ _ _ _ _ _ _)); first | walk1 | (dsimp only; walk1))
  k_dflt (refine LCg.CompSrc.range (by rfl) (by k_asm) (by k_asm) (by assumption) (by first | decide | rfl) (by first | rfl | decide) (by first | size_fits | exact Nat.le_of_ble_eq_true rfl) ?_; intro g'; lcg_lit)
  repeat' ((fail_if_success (with_reducible show wpAny _ _ (exec _ _) _ _ _)); first | (k_unfold; (try dsimp only)) | (k_end; wrow_close) | walk1 | (dsimp only; walk1) | fail "no step")
  k_dflt (refine LCg.Assign_ListComp_U (F₀ := by k_asm) (by rfl) (by with_unfolding_all rfl) (by with_unfolding_all rfl) (by decide) (by rfl) (by decide) (by rfl) (by rfl) (by rfl) ?_)
  repeat' ((fail_if_success (with_reducible show LCg.CompSrc _ _ _ _ _ _ _ _ _ _ _ _ _ _)); first | walk1 | (dsimp only; walk1))
  k_dflt (refine LCg.CompSrc.ledger (by rfl) (by k_asm) (by k_asm) (by k_mem) (by first | size_fits | exact Nat.le_of_ble_eq_true rfl) ?_; intro g'; lcg_lit)
  repeat' ((fail_if_success (with_reducible show wpAny _ _ (pyIter _) _ _ _)); first | (k_unfold; (try dsimp only)) | (k_end; wrow_close) | walk1 | (dsimp only; walk1) | fail "no step")
  (rename Fr _ _ _ _ => wF)
  (rename News _ _ _ _ => wN)
  (rename IsRange _ _ _ _ _ _ _ _ => wR)
  generalize hbd : (Int.fmod (List.sum _) 20) = bd at *
  have wN4 := to4 wN
  clear wN
  refine iter_rangeUnr (n := 3) rfl wR (by decide) (by decide) wF wN4 (fun I hI => ?_)
  refine RangeRest.ind (JW bd I) ?_ ?_ 3 0 _ _ ?_
  · clear wF wN4 wR hI
    have bdl : 0 ≤ bd := (hbd ▸ bd_ok _ : 0 ≤ bd ∧ bd ≤ 19).1
    have bdu : bd ≤ 19 := (hbd ▸ bd_ok _ : 0 ≤ bd ∧ bd ≤ 19).2
    clear hbd
    repeat (rename _ ∧ _ => z; clear z)
    repeat (rename _ ≠ _ => z; clear z)
    repeat (rename LCg.NsObj _ _ => z; clear z)
    repeat (rename Fr _ _ _ _ => z; clear z)
    repeat (rename News _ _ _ _ => z; clear z)
    rintro i m news t h tk it rest ⟨tb, lw, l1, l2, l3, a1, b1, a2, b2, a3, b3, x1, x2, x3, p1, p2, p3, q1, q2, q3, r1, r2, r3, hw, hb, rfl, w1, w2, w3, n0, n1, n2, n3⟩ hrest F3 N3
    rw [ov2' hw hb] at F3
    obtain ⟨ha1, ha1', hb1, hb1', -⟩ := id w1
    obtain ⟨ha2, ha2', hb2, hb2', -⟩ := id w2
    obtain ⟨ha3, ha3', hb3, hb3', -⟩ := id w3
    have hx1 := w1.x1
    have hx2 := w2.x1
    have hx3 := w3.x1
    have lt1 := text_len w1
    have lt2 := text_len w2
    have lt3 := text_len w3
    have lr1 : (Str.ofString "257 \"" ++ textS a1 x1 b1).length ≤ 18 := rs18 w1
    have lr2 : (Str.ofString "257 \"" ++ textS a2 x2 b2).length ≤ 18 := rs18 w2
    have lr3 : (Str.ofString "257 \"" ++ textS a3 x3 b3).length ≤ 18 := rs18 w3
    k_dflt (refine wpAny_execs_cons ?_)
    k_dflt (refine LCg.Assign_ListComp_U (F₀ := by k_asm) (by rfl) (by with_unfolding_all rfl) (by with_unfolding_all rfl) (by decide) (by rfl) (by decide) (by rfl) (by rfl) (by rfl) ?_)
    repeat' ((fail_if_success (with_reducible show LCg.CompSrc _ _ _ _ _ _ _ _ _ _ _ _ _ _)); first | walk1 | (dsimp only; walk1))
    k_dflt (refine LCg.CompSrc.ledger (by rfl) (by k_asm) (by k_asm) (by k_mem) (by first | size_fits | exact Nat.le_of_ble_eq_true rfl) ?_; intro g'; lcg_lit)
    repeat' ((fail_if_success (with_reducible show wpAny _ _ (exec (Stmt.For _ _ _ _ _) _) _ _ _)); first | (k_unfold; (try dsimp only)) | (k_end; wrow_close) | walk1 | (dsimp only; walk1) | fail "no step")
    (rename Fr _ _ _ _ => wF)
    (rename News _ _ _ _ => wN)
    revert wF wN
    repeat (rename Fr _ _ _ _ => z; clear z)
    repeat (rename News _ _ _ _ => z; clear z)
    repeat (rename LCg.NsObj _ _ => z; clear z)
    repeat (with_reducible rename _ ∧ _ => z; clear z)
    intro wF wN
    have t12 := told_ok w1 w2 bdl bdu
    have t13 := told_ok w1 w3 bdl bdu
    have t23 := told_ok w2 w3 bdl bdu
    repeat' ((fail_if_success (with_reducible show wpAny _ _ (exec (Stmt.If (Expr.BoolOp BoolOp.And _ _) _ _ _) _) _ _ _)); first | (refine ite_bne ?_) | (k_unfold; (try dsimp only)) | walk1 | (dsimp only; walk1) | fail "no step")
    (rename Fr _ _ _ _ => wF)
    (rename News _ _ _ _ => wN)
    refine stays_cut wF wN ?_ ?_
    · repeat' ((fail_if_success (with_reducible show wpAny _ _ (exec (Stmt.Return _ _) _) _ _ _)); first | (refine ite_bne ?_) | (k_unfold; (try dsimp only)) | walk1 | (dsimp only; walk1) | fail "no step")
      all_goals first | exact Stays.of (by assumption) (by assumption) | exact (told_no1 t12 (by with_reducible assumption) (by with_reducible assumption)).elim | exact (told_no2 t12 (by with_reducible assumption) (by with_reducible assumption)).elim
    clear wF wN
    repeat (rename Fr _ _ _ _ => z; clear z)
    repeat (rename News _ _ _ _ => z; clear z)
    intro h tk F1 N1
    dsimp only
    repeat' ((fail_if_success (with_reducible show wpAny _ _ (exec (Stmt.If (Expr.BoolOp BoolOp.And _ _) _ _ _) _) _ _ _)); first | (refine ite_bne ?_) | (k_unfold; (try dsimp only)) | walk1 | (dsimp only; walk1) | fail "no step")
    (rename Fr _ _ _ _ => wF)
    (rename News _ _ _ _ => wN)
    refine stays_cut wF wN ?_ ?_
    · repeat' ((fail_if_success (with_reducible show wpAny _ _ (exec (Stmt.Return _ _) _) _ _ _)); first | (refine ite_bne ?_) | (k_unfold; (try dsimp only)) | walk1 | (dsimp only; walk1) | fail "no step")
      all_goals first | exact Stays.of (by assumption) (by assumption) | exact (told_no1 t13 (by with_reducible assumption) (by with_reducible assumption)).elim | exact (told_no2 t13 (by with_reducible assumption) (by with_reducible assumption)).elim
    clear wF wN
    repeat (rename Fr _ _ _ _ => z; clear z)
    repeat (rename News _ _ _ _ => z; clear z)
    intro h tk F1 N1
    dsimp only
    repeat' ((fail_if_success (with_reducible show wpAny _ _ (exec (Stmt.If (Expr.BoolOp BoolOp.And _ _) _ _ _) _) _ _ _)); first | (refine ite_bne ?_) | (k_unfold; (try dsimp only)) | walk1 | (dsimp only; walk1) | fail "no step")
    (rename Fr _ _ _ _ => wF)
    (rename News _ _ _ _ => wN)
    refine stays_cut wF wN ?_ ?_
    · repeat' ((fail_if_success (with_reducible show wpAny _ _ (exec (Stmt.Return _ _) _) _ _ _)); first | (refine ite_bne ?_) | (k_unfold; (try dsimp only)) | walk1 | (dsimp only; walk1) | fail "no step")
      all_goals first | exact Stays.of (by assumption) (by assumption) | exact (told_no1 t23 (by with_reducible assumption) (by with_reducible assumption)).elim | exact (told_no2 t23 (by with_reducible assumption) (by with_reducible assumption)).elim
    clear wF wN
    repeat (rename Fr _ _ _ _ => z; clear z)
    repeat (rename News _ _ _ _ => z; clear z)
    intro h tk F1 N1
    dsimp only
    repeat' ((fail_if_success (with_reducible show wpAny _ _ (exec (Stmt.Assign _ (Expr.ListComp _ _ _ _) _) _) _ _ _)); first | (refine ite_bne ?_) | (k_unfold; (try dsimp only)) | walk1 | (dsimp only; walk1) | fail "no step")
    (rename Fr _ _ _ _ => wF)
    (rename News _ _ _ _ => wN)
    obtain ⟨m4, wF4⟩ := fr3 (x := Str.ofString "replies") (y := Str.ofString "words") (z := Str.ofString "bound") wF rfl rfl rfl
    have wN6 := news4 wN
    clear wF wN t12 t13 t23
    revert wF4 wN6
    repeat (rename Fr _ _ _ _ => z; clear z)
    repeat (rename News _ _ _ _ => z; clear z)
    repeat (with_reducible rename _ ∧ _ => z; clear z)
    intro wF4 wN6
    k_dflt (refine LCg.Assign_ListComp_U (F₀ := by k_asm) (by rfl) (by with_unfolding_all rfl) (by with_unfolding_all rfl) (by decide) (by rfl) (by decide) (by rfl) (by rfl) (by rfl) ?_)
    repeat' ((fail_if_success (with_reducible show LCg.CompSrc _ _ _ _ _ _ _ _ _ _ _ _ _ _)); first | walk1 | (dsimp only; walk1))
    k_dflt (refine LCg.CompSrc.ledger (by rfl) (by k_asm) (by k_asm) (by k_mem) (by first | size_fits | exact Nat.le_of_ble_eq_true rfl) ?_; intro g'; lcg_lit)
    repeat' ((fail_if_success (with_reducible show wpAny _ _ (call (Value.ref 74) [Value.ref _]) _ _ _)); first | (refine ite_bne ?_) | (k_unfold; (try dsimp only)) | walk1 | (dsimp only; walk1) | fail "no step")
    k_dflt (refine' halved_m ?m1 w1 _ _ _ _ _ _ _ _ _ _ _ _ _ _ _ _ _ _ _ _ _ ?k1 ?k2 ?k3 ?k4 ?k5 ?kK ?kd ?ku ?_; (case k4 => k_asm); (case k1 => k_asm); (case k2 => k_asm); (case k3 => k_asm); (case k5 => k_asm); (case kK => exact rfl); (case kd => first | decide | (dsimp only [Around.deeper]; decide)); (case ku => first | decide | (dsimp only [Around.deeper]; decide)); (case m1 => k_mem))
    intro D1 u1 v1 y1 h tk F5 N5 lt5
    dsimp only
    have li1 : I < D1 := lt5 (I, it) (by k_mem)
    repeat' ((fail_if_success (with_reducible show LCg.CompEnd _ _ _ _ _ _ _ _ _ _ _ _ _ _)); first | (refine ite_bne ?_) | (k_unfold; (try dsimp only)) | walk1 | (dsimp only; walk1) | fail "no step")
    k_dflt (refine compEnd_push F5 N5 lt5 (by (simp only [LCg.Off3, and_true]; with_reducible assumption)) (Or.inr ⟨_, by k_mem, rfl, _, rfl⟩) ?_)
    clear F5 N5 lt5
    repeat (rename Fr _ _ _ _ => z; clear z)
    repeat (rename News _ _ _ _ => z; clear z)
    repeat (rename LCg.NsObj _ _ => z; clear z)
    repeat (with_reducible rename _ ∧ _ => z; clear z)
    repeat' ((fail_if_success (with_reducible show wpAny _ _ (call (Value.ref 74) [Value.ref _]) _ _ _)); first | (refine ite_bne ?_) | (k_unfold; (try dsimp only)) | walk1 | (dsimp only; walk1) | fail "no step")
    k_dflt (refine' halved_m ?m1 w2 _ _ _ _ _ _ _ _ _ _ _ _ _ _ _ _ _ _ _ _ _ ?k1 ?k2 ?k3 ?k4 ?k5 ?kK ?kd ?ku ?_; (case k4 => k_asm); (case k1 => k_asm); (case k2 => k_asm); (case k3 => k_asm); (case k5 => k_asm); (case kK => exact rfl); (case kd => first | decide | (dsimp only [Around.deeper]; decide)); (case ku => first | decide | (dsimp only [Around.deeper]; decide)); (case m1 => k_mem))
    intro D2 u2 v2 y2 h tk F5 N5 lt5
    dsimp only
    have li2 : I < D2 := lt5 (I, it) (by k_mem)
    repeat' ((fail_if_success (with_reducible show LCg.CompEnd _ _ _ _ _ _ _ _ _ _ _ _ _ _)); first | (refine ite_bne ?_) | (k_unfold; (try dsimp only)) | walk1 | (dsimp only; walk1) | fail "no step")
    k_dflt (refine compEnd_push F5 N5 lt5 (by (simp only [LCg.Off3, and_true]; with_reducible assumption)) (Or.inr ⟨_, by k_mem, rfl, _, rfl⟩) ?_)
    clear F5 N5 lt5
    repeat (rename Fr _ _ _ _ => z; clear z)
    repeat (rename News _ _ _ _ => z; clear z)
    repeat (rename LCg.NsObj _ _ => z; clear z)
    repeat (with_reducible rename _ ∧ _ => z; clear z)
    repeat' ((fail_if_success (with_reducible show wpAny _ _ (call (Value.ref 74) [Value.ref _]) _ _ _)); first | (refine ite_bne ?_) | (k_unfold; (try dsimp only)) | walk1 | (dsimp only; walk1) | fail "no step")
    k_dflt (refine' halved_m ?m1 w3 _ _ _ _ _ _ _ _ _ _ _ _ _ _ _ _ _ _ _ _ _ ?k1 ?k2 ?k3 ?k4 ?k5 ?kK ?kd ?ku ?_; (case k4 => k_asm); (case k1 => k_asm); (case k2 => k_asm); (case k3 => k_asm); (case k5 => k_asm); (case kK => exact rfl); (case kd => first | decide | (dsimp only [Around.deeper]; decide)); (case ku => first | decide | (dsimp only [Around.deeper]; decide)); (case m1 => k_mem))
    intro D3 u3 v3 y3 h tk F5 N5 lt5
    dsimp only
    have li3 : I < D3 := lt5 (I, it) (by k_mem)
    repeat' ((fail_if_success (with_reducible show LCg.CompEnd _ _ _ _ _ _ _ _ _ _ _ _ _ _)); first | (refine ite_bne ?_) | (k_unfold; (try dsimp only)) | walk1 | (dsimp only; walk1) | fail "no step")
    k_dflt (refine compEnd_push F5 N5 lt5 (by (simp only [LCg.Off3, and_true]; with_reducible assumption)) (Or.inr ⟨_, by k_mem, rfl, _, rfl⟩) ?_)
    clear F5 N5 lt5
    repeat (rename Fr _ _ _ _ => z; clear z)
    repeat (rename News _ _ _ _ => z; clear z)
    repeat (rename LCg.NsObj _ _ => z; clear z)
    repeat (with_reducible rename _ ∧ _ => z; clear z)
    repeat' ((fail_if_success (with_reducible show wpAny _ _ (eval (Expr.ListComp _ _ _ _) _) _ _ _)); first | (refine ite_bne ?_) | (k_unfold; (try dsimp only)) | walk1 | (dsimp only; walk1) | fail "no step")
    (with_reducible rename _ ≠ _ ∧ _ => o1)
    have liw := o1.2.2.2.2.1
    k_dflt (refine LCg.ListComp_U (F₀ := by k_asm) (by rfl) (by decide) (by rfl) (by decide) (by rfl) ?_)
    repeat' ((fail_if_success (with_reducible show LCg.CompSrc _ _ _ _ _ _ _ _ _ _ _ _ _ _)); first | walk1 | (dsimp only; walk1))
    k_dflt (refine LCg.CompSrc.ledger (by rfl) (by k_asm) (by k_asm) (by k_mem) (by first | size_fits | exact Nat.le_of_ble_eq_true rfl) ?_; intro g'; lcg_lit)
    have wh1 := half_ok w1
    have wh2 := half_ok w2
    have wh3 := half_ok w3
    repeat' ((fail_if_success (with_reducible show wpAny _ _ (eval (Expr.ListComp _ _ _ _) _) _ _ _)); first | (refine ite_bne ?_) | (k_unfold; (try dsimp only)) | walk1 | (dsimp only; walk1) | fail "no step")
    k_dflt (refine LCg.ListComp_U (F₀ := by k_asm) (by rfl) (by decide) (by rfl) (by decide) (by rfl) ?_)
    repeat' ((fail_if_success (with_reducible show LCg.CompSrc _ _ _ _ _ _ _ _ _ _ _ _ _ _)); first | walk1 | (dsimp only; walk1))
    k_dflt (refine LCg.CompSrc.ledger (by rfl) (by k_asm) (by k_asm) (by k_mem) (by first | size_fits | exact Nat.le_of_ble_eq_true rfl) ?_; intro g'; lcg_lit)
    repeat' ((fail_if_success (with_reducible show wpAny _ _ (compareOp _ _ _) _ _ _)); first | (refine ite_bne ?_) | (k_unfold; (try dsimp only)) | walk1 | (dsimp only; walk1) | fail "no step")
    (rename Fr _ _ _ _ => wF)
    (rename News _ _ _ _ => wN)
    revert wF wN
    repeat (rename Fr _ _ _ _ => z; clear z)
    repeat (rename News _ _ _ _ => z; clear z)
    repeat (rename LCg.NsObj _ _ => z; clear z)
    intro wF wN
    k_dflt (refine ne_strs wN (by k_mem) (by k_mem) (text_ok wh1) (text_ok wh2) (text_ok wh3) (by ke_room) ?_)
    repeat' ((fail_if_success (with_reducible show UnrEnd _ _ _ _ _ _ _)); first | (k_unfold; (try dsimp only)) | walk1 | (dsimp only; walk1) | fail "no step")
    refine UnrEnd.intro wF wN [(_, LCg.lst [Value.ref D1, Value.ref D2, Value.ref D3]), (D1, tup3 (hA a1) u1 (hX a1 x1) v1 (hB a1 b1) y1), (D2, tup3 (hA a2) u2 (hX a2 x2) v2 (hB a2 b2) y2), (D3, tup3 (hA a3) u3 (hX a3 x3) v3 (hB a3 b3) y3)] ?_ ?_ (hrest _ _ ⟨tb, _, D1, D2, D3, hA a1, hB a1 b1, hA a2, hB a2 b2, hA a3, hB a3 b3, hX a1 x1, hX a2 x2, hX a3 x3, u1, u2, u3, v1, v2, v3, y1, y2, y3, rfl, rfl, rfl, wh1, wh2, wh3, Ne.symm liw, Nat.ne_of_gt li1, Nat.ne_of_gt li2, Nat.ne_of_gt li3⟩)
    · lcg_sub
    · exact List.forall_mem_cons.mpr ⟨Ne.symm liw, List.forall_mem_cons.mpr ⟨Nat.ne_of_gt li1, List.forall_mem_cons.mpr ⟨Nat.ne_of_gt li2, List.forall_mem_cons.mpr ⟨Nat.ne_of_gt li3, List.forall_mem_nil _⟩⟩⟩⟩
  · clear wF wN4 wR
    intro m news h tk _ F3 N3
    dsimp only
    k_steps
  · exact ⟨_, _, _, _, _, _, _, _, _, _, _, _, _, _, _, _, _, _, _, _, _, _, _, rfl, rfl, rfl, word_start _, word_start _, word_start _, Nat.ne_of_lt (hI _ (.head _)), Nat.ne_of_lt (hI _ (.tail _ (.head _))), Nat.ne_of_lt (hI _ (.tail _ (.tail _ (.head _)))), Nat.ne_of_lt (hI _ (.tail _ (.tail _ (.tail _ (.head _)))))⟩)
end Mine
open PySem PySem.W PyProof.Rows
theorem PySem.Challenge.cw_pe0084_01_holds : PySem.Challenge.rw_pe0084_01.Holds :=
  Mine.lawHolds
