/-
  THE PLAIN LAW OF THE PAIR MODEL. No program.
-/
import Derived.Test.Qxb6603412aD
namespace Go.Proofs.Qxb6603412a
open Go.RowKit Go.Maps
set_option linter.unusedVariables false

/-- The edges into y from the positions of a list of locks ahead of it. -/
def rowL (pg : Int) : List (Int × Bool) → Int × Bool → List (Int × Int × Int)
  | [], _ => []
  | a :: P, y => (if a.1 ≠ y.1 ∧ (a.2 || y.2) = true ∧ (P.all fun b => !b.2) = true then [(a.1, y.1, pg)] else []) ++ rowL pg P y
/-- All edges, the locks ahead and those to come. -/
def restL (pg : Int) : List (Int × Bool) → List (Int × Bool) → List (Int × Int × Int)
  | _, [] => []
  | Pre, y :: Rem => rowL pg Pre y ++ restL pg (Pre ++ [y]) Rem

theorem rowL_shared (pg : Int) (y : Int × Bool) : ∀ B : List (Int × Bool), (B.all fun b => !b.2) = true → rowL pg B y = if y.2 then e2 pg y.1 (B.map Prod.fst) else []
  | [], _ => by simp [rowL, e2]
  | (t, x) :: B, h => by
    rw [List.all_cons, Bool.and_eq_true] at h
    obtain ⟨h1, h2⟩ := h
    obtain rfl : x = false := by simpa using h1
    rw [rowL, rowL_shared pg y B h2]
    obtain ⟨t', x'⟩ := y
    cases x'
    · simp
    · simp only [h2, e2, List.map_cons, List.filter_cons]
      by_cases e : t = t' <;> simp [e]
theorem rowL_excl (pg : Int) (y : Int × Bool) (wt : Int) (B : List (Int × Bool)) (hB : (B.all fun b => !b.2) = true) : ∀ A : List (Int × Bool), rowL pg (A ++ (wt, true) :: B) y = (if wt ≠ y.1 then [(wt, y.1, pg)] else []) ++ rowL pg B y
  | [] => by simp [rowL, hB]
  | a :: A => by
    rw [List.cons_append, rowL, rowL_excl pg y wt B hB A]
    simp

/-- THE LAW. -/
theorem ac_restL (pg : Int) : ∀ (Rem A B : List (Int × Bool)) (wt : Int), (∀ y ∈ Rem, 0 ≤ y.1) → (B.all fun b => !b.2) = true → (A = [] ∧ wt = -1) ∨ (∃ A', A = A' ++ [(wt, true)] ∧ 0 ≤ wt) →
    ac pg Rem wt (B.map Prod.fst) = restL pg (A ++ B) Rem
  | [], A, B, wt, _, _, _ => by simp [ac, restL]
  | (t, x) :: Rem, A, B, wt, hp, hB, hA => by
    have hrow : rowL pg (A ++ B) (t, x) = e1 pg wt t ++ if x then e2 pg t (B.map Prod.fst) else [] := by
      rcases hA with ⟨rfl, rfl⟩ | ⟨A', rfl, h0⟩
      · rw [List.nil_append, rowL_shared pg _ B hB]; simp [e1]
      · rw [List.append_assoc, List.singleton_append, rowL_excl pg _ wt B hB A', rowL_shared pg _ B hB]
        simp [e1, h0]
    have hp' : ∀ y ∈ Rem, 0 ≤ y.1 := fun y hy => hp y (List.mem_cons_of_mem _ hy)
    rw [restL, hrow, ac]
    cases x
    · have := ac_restL pg Rem A (B ++ [(t, false)]) wt hp' (by rw [List.all_append, hB]; rfl) hA
      simp at this ⊢
      exact this
    · have ht : 0 ≤ t := hp _ (List.mem_cons_self ..)
      have := ac_restL pg Rem (A ++ B ++ [(t, true)]) [] t hp' rfl (.inr ⟨A ++ B, rfl, ht⟩)
      simp at this ⊢
      exact this
theorem ac_model (pg : Int) (K : List (Int × Bool)) (h : ∀ y ∈ K, 0 ≤ y.1) : ac pg K (-1) [] = restL pg [] K := by
  have := ac_restL pg K [] [] (-1) h rfl (.inl ⟨rfl, rfl⟩)
  simpa using this

/-- Exclusive locks among the first i. -/
def wb (K : List (Int × Bool)) (i : Nat) : Nat := (K.take i).countP (·.2)
theorem wb_zero (K : List (Int × Bool)) : wb K 0 = 0 := by simp [wb]
theorem wb_le (K : List (Int × Bool)) (i : Nat) : wb K i ≤ i := Nat.le_trans (List.countP_le_length) (List.length_take_le _ _)
theorem wb_succ (K : List (Int × Bool)) {i : Nat} (h : i < K.length) {t : Int} {x : Bool} (e : K.getD i (0, false) = (t, x)) : wb K (i + 1) = wb K i + if x then 1 else 0 := by
  unfold wb
  rw [take_snoc K (0, false) h, e, List.countP_append]
  cases x <;> simp
theorem wb_eq (K : List (Int × Bool)) {k j : Nat} (h : k < j) : (wb K j = wb K (k + 1)) ↔ (((K.take j).drop (k + 1)).all fun b => !b.2) = true := by
  have : K.take j = K.take (k + 1) ++ (K.take j).drop (k + 1) := by
    have := (List.take_append_drop (k + 1) (K.take j)).symm
    rw [List.take_take, Nat.min_eq_left (by omega)] at this
    exact this
  unfold wb
  rw [this, List.countP_append]
  have e : (K.take (k + 1) ++ (K.take j).drop (k + 1)).drop (k + 1) = (K.take j).drop (k + 1) := by rw [← this]
  rw [e]
  constructor
  · intro h0
    have h1 : ((K.take j).drop (k + 1)).countP (·.2) = 0 := by omega
    rw [List.countP_eq_zero] at h1
    rw [List.all_eq_true]
    intro b hb
    simpa using h1 b hb
  · intro h0
    have h1 : ((K.take j).drop (k + 1)).countP (·.2) = 0 := by
      rw [List.countP_eq_zero]
      intro b hb
      have := List.all_eq_true.1 h0 b hb
      simpa using this
    omega

/-- The row of counts, filled up to i. -/
def wbRow (K : List (Int × Bool)) (i : Nat) : List Value := (List.range (K.length + 1)).map fun q => .int .i64 ((if q ≤ i then wb K q else 0 : Nat) : Int)
theorem wbRow_len (K : List (Int × Bool)) (i : Nat) : (wbRow K i).length = K.length + 1 := by simp [wbRow]
theorem wbRow_at (K : List (Int × Bool)) {i q : Nat} (h : q ≤ i) (hq : q ≤ K.length) : (wbRow K i)[q]? = some (.int .i64 (wb K q)) := by
  unfold wbRow
  rw [List.getElem?_map, List.getElem?_range (by omega)]
  simp [h]
theorem wbRow_set (K : List (Int × Bool)) (i : Nat) : (wbRow K i).set (i + 1) (.int .i64 (wb K (i + 1))) = wbRow K (i + 1) := by
  apply List.ext_getElem?
  intro q
  rw [List.getElem?_set]
  by_cases hq : q < K.length + 1
  · by_cases e : i + 1 = q
    · subst e
      rw [if_pos rfl, if_pos (by rw [wbRow_len]; exact hq), wbRow_at K (Nat.le_refl _) (by omega)]
    · rw [if_neg e]
      unfold wbRow
      rw [List.getElem?_map, List.getElem?_map, List.getElem?_range hq]
      by_cases hl : q ≤ i
      · simp [hl, show q ≤ i + 1 by omega]
      · simp [hl, show ¬ q ≤ i + 1 by omega]
  · rw [List.getElem?_eq_none (l := wbRow K (i + 1)) (by rw [wbRow_len]; omega)]
    split
    · rw [if_neg (by rw [wbRow_len]; omega)]
    · exact List.getElem?_eq_none (by rw [wbRow_len]; omega)
theorem wbRow_zero (K : List (Int × Bool)) : wbRow K 0 = List.replicate (K.length + 1) (.int .i64 0) := by
  apply List.ext_getElem?
  intro q
  unfold wbRow
  by_cases hq : q < K.length + 1
  · rw [List.getElem?_map, List.getElem?_range hq, List.getElem?_replicate, if_pos hq]
    by_cases h0 : q = 0
    · subst h0; simp [wb_zero]
    · simp [h0]
  · rw [List.getElem?_eq_none (by simp; omega), List.getElem?_eq_none (by simp; omega)]

/-- Inside the double loop: one step of k. -/
theorem row_step (pg : Int) (K : List (Int × Bool)) {k j : Nat} (hkj : k < j) (hj : j < K.length) {a y : Int × Bool} (ha : K.getD k (0, false) = a) (hy : K.getD j (0, false) = y) :
    rowL pg ((K.take j).drop k) y = (if a.1 ≠ y.1 ∧ (a.2 || y.2) = true ∧ wb K j = wb K (k + 1) then [(a.1, y.1, pg)] else []) ++ rowL pg ((K.take j).drop (k + 1)) y := by
  have h1 : (K.take j).drop k = a :: (K.take j).drop (k + 1) := by
    rw [List.drop_eq_getElem_cons (by simp; omega)]
    congr 1
    rw [List.getElem_take, ← ha]
    simp [List.getD, show k < K.length by omega]
  rw [h1, rowL]
  simp only [wb_eq K hkj]
theorem rest_step (pg : Int) (K : List (Int × Bool)) {j : Nat} (hj : j < K.length) {y : Int × Bool} (hy : K.getD j (0, false) = y) : restL pg (K.take j) (K.drop j) = rowL pg (K.take j) y ++ restL pg (K.take (j + 1)) (K.drop (j + 1)) := by
  have h1 : K.drop j = y :: K.drop (j + 1) := by
    rw [List.drop_eq_getElem_cons hj]
    congr 1
    rw [← hy]; simp [List.getD, hj]
  rw [h1, restL, take_snoc K (0, false) hj, hy]
theorem row_end (pg : Int) (K : List (Int × Bool)) (j : Nat) (y : Int × Bool) : rowL pg ((K.take j).drop j) y = [] := by
  rw [List.drop_of_length_le (by simp; omega)]; rfl

/-- The next edge lies at pos. -/
theorem drop_next {α : Type} {l r : List α} {e : α} {p : Nat} (h : l.drop p = e :: r) (d : α) : p < l.length ∧ l.getD p d = e ∧ l.drop (p + 1) = r := by
  have hp : p < l.length := by
    by_cases hp : p < l.length
    · exact hp
    · rw [List.drop_of_length_le (by omega)] at h; cases h
  rw [List.drop_eq_getElem_cons hp] at h
  injection h with h1 h2
  exact ⟨hp, by simpa [List.getD, hp] using h1, h2⟩
theorem drop_done {α : Type} {l : List α} {p : Nat} (h : l.drop p = []) (hp : p ≤ l.length) : p = l.length := by
  rw [List.drop_eq_nil_iff] at h; omega
end Go.Proofs.Qxb6603412a
