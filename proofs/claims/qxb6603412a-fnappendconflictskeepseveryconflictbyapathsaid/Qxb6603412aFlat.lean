/-
  ROWS OF THREE-CELL ELEMENTS: plain lists and what lies in memory. No program.
-/
import Derived.WalkKit
import Derived.WalkSmall
namespace Go.Proofs.Qxb6603412a
open Go.RowKit

/-- Three cells. -/
abbrev V3 := Value × Value × Value

def flat : List V3 → List Value
  | [] => []
  | x :: r => x.1 :: x.2.1 :: x.2.2 :: flat r

theorem flat_len (Y : List V3) : (flat Y).length = Y.length * 3 := by
  induction Y with
  | nil => rfl
  | cons x r ih => simp [flat, ih]; omega
theorem flat_append (Y Z : List V3) : flat (Y ++ Z) = flat Y ++ flat Z := by
  induction Y with
  | nil => rfl
  | cons x r ih => simp [flat, ih]
theorem flat_set (Y : List V3) (k : Nat) (x : V3) (h : k < Y.length) : (((flat Y).set (k * 3) x.1).set (k * 3 + 1) x.2.1).set (k * 3 + 2) x.2.2 = flat (Y.set k x) := by
  induction Y generalizing k with
  | nil => simp at h
  | cons y r ih =>
    cases k with
    | zero => simp [flat]
    | succ k =>
      have := ih k (by simpa using h)
      rw [show (k + 1) * 3 = k * 3 + 1 + 1 + 1 by omega]
      simp only [flat, List.set_cons_succ]
      rw [this]
theorem flat_at (Y : List V3) (d : V3) (k : Nat) (h : k < Y.length) : (flat Y)[k * 3]? = some (Y.getD k d).1 ∧ (flat Y)[k * 3 + 1]? = some (Y.getD k d).2.1 ∧ (flat Y)[k * 3 + 2]? = some (Y.getD k d).2.2 := by
  induction Y generalizing k with
  | nil => simp at h
  | cons y r ih =>
    cases k with
    | zero => simp [flat]
    | succ k =>
      have := ih k (by simpa using h)
      rw [show (k + 1) * 3 = k * 3 + 1 + 1 + 1 by omega]
      simp only [flat]
      rw [show k * 3 + 1 + 1 + 1 + 1 = (k * 3 + 1) + 1 + 1 + 1 by omega, show k * 3 + 1 + 1 + 1 + 2 = (k * 3 + 2) + 1 + 1 + 1 by omega]
      simpa using this
theorem flat_rep (n : Nat) (a b c : Value) : (madeCells #[a, b, c] (n * 3)).toList = flat (List.replicate n (a, b, c)) := by
  apply List.ext_getElem?
  intro j
  by_cases hj : j < n * 3
  · have hk : j / 3 < n := by omega
    have h := flat_at (List.replicate n (a, b, c)) (a, b, c) (j / 3) (by simpa using hk)
    have e : (List.replicate n (a, b, c)).getD (j / 3) (a, b, c) = (a, b, c) := by simp [List.getD, hk]
    rw [e] at h
    have hm : (madeCells #[a, b, c] (n * 3)).toList[j]? = some (#[a, b, c].getD (j % 3) a) := by
      simp [madeCells, hj]
      have : j % 3 = 0 ∨ j % 3 = 1 ∨ j % 3 = 2 := by omega
      rcases this with h | h | h <;> simp [h]
    rw [hm]
    have h3 : j % 3 = 0 ∨ j % 3 = 1 ∨ j % 3 = 2 := by omega
    rcases h3 with h3 | h3 | h3
    · rw [h3, show j = j / 3 * 3 by omega, h.1]; rfl
    · rw [h3, show j = j / 3 * 3 + 1 by omega, h.2.1]; rfl
    · rw [h3, show j = j / 3 * 3 + 2 by omega, h.2.2]; rfl
  · rw [List.getElem?_eq_none (by simp [madeCells]; omega), List.getElem?_eq_none (by rw [flat_len]; simp; omega)]

/-- A slice that is read: its address and its elements' cells; an empty one may lie anywhere. -/
def TRow (w : World) (ao : Option Addr) (Y : List V3) : Prop :=
  Y = [] ∨ ∃ b off, ao = some ⟨b, off, none⟩ ∧ ∀ k, k < Y.length → w.cell? ⟨b, off + k * 3, none⟩ = some (Y.getD k (undef, undef, undef)).1 ∧
    w.cell? ⟨b, off + k * 3 + 1, none⟩ = some (Y.getD k (undef, undef, undef)).2.1 ∧ w.cell? ⟨b, off + k * 3 + 2, none⟩ = some (Y.getD k (undef, undef, undef)).2.2

theorem TRow.below {w w' : World} {ao : Option Addr} {Y : List V3} (h : TRow w ao Y) (hb : Below w.heap.size w w') : TRow w' ao Y := by
  rcases h with hh | ⟨b, off, rfl, hc⟩
  · exact .inl hh
  · refine .inr ⟨b, off, rfl, fun j hj => ?_⟩
    obtain ⟨h0, h1, h2⟩ := hc j hj
    have hb0 := World.block_lt_of_cell? w ⟨b, off + j * 3, none⟩ h0
    exact ⟨(hb.cell (p := ⟨b, off + j * 3, none⟩) hb0).trans h0, (hb.cell (p := ⟨b, off + j * 3 + 1, none⟩) hb0).trans h1, (hb.cell (p := ⟨b, off + j * 3 + 2, none⟩) hb0).trans h2⟩
theorem TRow.drewN {w : World} {ao : Option Addr} {Y : List V3} (h : TRow w ao Y) (n : Nat) : TRow (w.drewN n) ao Y := h

/-- A row of the call's own, in block g, of n elements of type e. -/
def Own3 (w : World) (e g n c : Nat) (Y : List V3) : Prop := w.ownsRow 0 e 3 (.slice (some ⟨g, 0, none⟩) n c) n (flat Y)

section
variable {w : World} {e g n c : Nat} {Y : List V3}
theorem Own3.len (h : Own3 w e g n c Y) : Y.length = n := by have := h.1; rw [flat_len] at this; omega
theorem Own3.cells (h : Own3 w e g n c Y) {k : Nat} (hk : k < n) : w.cell? ⟨g, k * 3, none⟩ = some (Y.getD k (undef, undef, undef)).1 ∧ w.cell? ⟨g, k * 3 + 1, none⟩ = some (Y.getD k (undef, undef, undef)).2.1 ∧ w.cell? ⟨g, k * 3 + 2, none⟩ = some (Y.getD k (undef, undef, undef)).2.2 := by
  have h1 := flat_at Y (undef, undef, undef) k (by rw [h.len]; exact hk)
  exact ⟨by rw [World.ownsRow.cellAt h _ (by omega)]; exact h1.1, by rw [World.ownsRow.cellAt h _ (by omega)]; exact h1.2.1, by rw [World.ownsRow.cellAt h _ (by omega)]; exact h1.2.2⟩
theorem Own3.frozen (h : Own3 w e g n c Y) (j : Nat) : w.frozen? ⟨g, j, none⟩ = false := World.ownsRow.frozenAt h j
theorem Own3.row (h : Own3 w e g n c Y) : TRow w (some ⟨g, 0, none⟩) Y :=
  .inr ⟨g, 0, rfl, fun k hk => by rw [Nat.zero_add]; exact h.cells (by rw [h.len] at hk; exact hk)⟩
theorem Own3.lt (h : Own3 w e g n c Y) : g < w.heap.size := by
  obtain ⟨_, h | ⟨g', c', cur, e', _, hh, _⟩⟩ := h
  · cases h.1
  · simp at e'
    obtain ⟨rfl, rfl⟩ := e'
    by_cases hlt : g < w.heap.size
    · exact hlt
    · rw [Array.getElem?_eq_none (by omega)] at hh; cases hh
theorem Own3.store (h : Own3 w e g n c Y) {k : Nat} (hk : k < n) (x : V3) : Own3 (((w.setCell ⟨g, k * 3, none⟩ x.1).setCell ⟨g, k * 3 + 1, none⟩ x.2.1).setCell ⟨g, k * 3 + 2, none⟩ x.2.2) e g n c (Y.set k x) := by
  have h1 := (World.ownsRow.stored h (k * 3) x.1).1
  have h2 := (h1.stored (k * 3 + 1) x.2.1).1
  have h3 := (h2.stored (k * 3 + 2) x.2.2).1
  unfold Own3
  rw [← flat_set Y k x (by rw [h.len]; exact hk)]
  exact h3
theorem Own3.keep {w' : World} (h : Own3 w e g n c Y) (he : w'.heap[g]? = w.heap[g]?) : Own3 w' e g n c Y := by
  obtain ⟨h1, h | ⟨g', c', cur, e', hb, hh, hr⟩⟩ := h
  · cases h.1
  · refine ⟨h1, .inr ⟨g', c', cur, e', hb, ?_, hr⟩⟩
    simp at e'
    obtain ⟨rfl, rfl⟩ := e'
    rw [he]; exact hh
theorem Own3.drewN (h : Own3 w e g n c Y) (m : Nat) : Own3 (w.drewN m) e g n c Y := h
end

/-- Copied so far: k elements, the rest as made. -/
def half3 (Y : List V3) (z : V3) (k : Nat) : List V3 := Y.take k ++ List.replicate (Y.length - k) z
theorem half3_zero (Y : List V3) (z : V3) : half3 Y z 0 = List.replicate Y.length z := by simp [half3]
theorem half3_all (Y : List V3) (z : V3) : half3 Y z Y.length = Y := by simp [half3]
theorem half3_set (Y : List V3) (z d : V3) (k : Nat) (h : k < Y.length) : (half3 Y z k).set k (Y.getD k d) = half3 Y z (k + 1) := by
  apply List.ext_getElem?
  intro j
  rw [List.getElem?_set]
  unfold half3
  by_cases hj : k = j
  · subst hj
    rw [if_pos rfl, if_pos (by simp; omega)]
    rw [List.getElem?_append_left (by simp; omega)]
    simp [List.getD]
    rw [List.getElem?_eq_getElem h]; rfl
  · rw [if_neg hj]
    by_cases hlt : j < k
    · rw [List.getElem?_append_left (by simp; omega), List.getElem?_append_left (by simp; omega)]
      simp [hlt, show j < k + 1 by omega]
    · rw [List.getElem?_append_right (by simp; omega), List.getElem?_append_right (by simp; omega)]
      simp only [List.length_take, List.getElem?_replicate]
      have e1 : min k Y.length = k := by omega
      have e2 : min (k + 1) Y.length = k + 1 := by omega
      rw [e1, e2]
      by_cases hin : j < Y.length
      · rw [if_pos (by omega), if_pos (by omega)]
      · rw [if_neg (by omega), if_neg (by omega)]

/-- An edge's cells; a grant's. -/
def eV (x : Int × Int × Int) : V3 := (.int .i64 x.1, .int .i64 x.2.1, .int .i64 x.2.2)
def gV (x : Int × Int × Bool) : V3 := (.int .i64 x.1, .int .i64 x.2.1, .bool x.2.2)

theorem erow_at {w : World} {ao : Option Addr} {E : List (Int × Int × Int)} (h : TRow w ao (E.map eV)) {k : Nat} (hk : k < E.length) :
    ∃ b off f t p, ao = some ⟨b, off, none⟩ ∧ E.getD k (0, 0, 0) = (f, t, p) ∧ w.cell? ⟨b, off + k * 3, none⟩ = some (.int .i64 f) ∧ w.cell? ⟨b, off + k * 3 + 1, none⟩ = some (.int .i64 t) ∧ w.cell? ⟨b, off + k * 3 + 2, none⟩ = some (.int .i64 p) := by
  rcases h with hh | ⟨b, off, rfl, hc⟩
  · rw [List.map_eq_nil_iff] at hh; rw [hh] at hk; simp at hk
  · obtain ⟨h0, h1, h2⟩ := hc k (by simpa using hk)
    have e : (E.map eV).getD k (undef, undef, undef) = eV (E.getD k (0, 0, 0)) := by simp [List.getD, hk]
    rw [e] at h0 h1 h2
    exact ⟨b, off, _, _, _, rfl, rfl, h0, h1, h2⟩
theorem grow_at {w : World} {ao : Option Addr} {G : List (Int × Int × Bool)} (h : TRow w ao (G.map gV)) {k : Nat} (hk : k < G.length) :
    ∃ b off t i x, ao = some ⟨b, off, none⟩ ∧ G.getD k (0, 0, false) = (t, i, x) ∧ w.cell? ⟨b, off + k * 3, none⟩ = some (.int .i64 t) ∧ w.cell? ⟨b, off + k * 3 + 1, none⟩ = some (.int .i64 i) ∧ w.cell? ⟨b, off + k * 3 + 2, none⟩ = some (.bool x) := by
  rcases h with hh | ⟨b, off, rfl, hc⟩
  · rw [List.map_eq_nil_iff] at hh; rw [hh] at hk; simp at hk
  · obtain ⟨h0, h1, h2⟩ := hc k (by simpa using hk)
    have e : (G.map gV).getD k (undef, undef, undef) = gV (G.getD k (0, 0, false)) := by simp [List.getD, hk]
    rw [e] at h0 h1 h2
    exact ⟨b, off, _, _, _, rfl, rfl, h0, h1, h2⟩
end Go.Proofs.Qxb6603412a
