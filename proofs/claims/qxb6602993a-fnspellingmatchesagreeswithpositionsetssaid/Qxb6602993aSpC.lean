/-
  WHAT THE WALK OF spellingModel NEEDS: the set of positions as a row of bools.
-/
import Derived.Test.Qxb6602993aSpP
import Derived.Test.Qxb6602993aColA
namespace Go.Proofs.Qxb6602993a.Sp
open Go.RowKit

/-- What 'next' holds while place p and alternative j are being looked at. -/
def NP (W : List UInt8) (N : Nat) (Rk : Nat → Prop) (T : List (List UInt8)) (p j : Nat) (L : List Bool) : Prop :=
  ∀ q, q ≤ N → (L.getD q false = true ↔ (∃ p' a, p' < p ∧ Rk p' ∧ a ∈ T ∧ a.isPrefixOf (W.drop p') = true ∧ q = p' + a.length) ∨
    (Rk p ∧ ∃ j', j' < j ∧ (T.getD j' []).isPrefixOf (W.drop p) = true ∧ q = p + (T.getD j' []).length))

section
variable {W : List UInt8} {N : Nat} {Rk : Nat → Prop} {T : List (List UInt8)} {p j : Nat} {L : List Bool}

theorem NP.init (M : Nat) : NP W N Rk T 0 0 (List.replicate M false) := by
  intro q _
  constructor
  · intro h
    simp [List.getD] at h
    rw [List.getElem?_replicate] at h
    split at h <;> simp at h
  · rintro (⟨p', a, h, _⟩ | ⟨_, j', h, _⟩) <;> omega

theorem NP.skip (h : NP W N Rk T p 0 L) (hn : ¬ Rk p) : NP W N Rk T (p + 1) 0 L := by
  intro q hq
  rw [h q hq]
  constructor
  · rintro (⟨p', a, h1, h2⟩ | ⟨_, j', h1, _⟩)
    · exact .inl ⟨p', a, by omega, h2⟩
    · omega
  · rintro (⟨p', a, h1, h2⟩ | ⟨_, j', h1, _⟩)
    · refine .inl ⟨p', a, ?_, h2⟩
      by_cases e : p' = p
      · subst e; exact absurd h2.1 hn
      · omega
    · omega

theorem NP.miss (h : NP W N Rk T p j L) (hn : (T.getD j []).isPrefixOf (W.drop p) = false) : NP W N Rk T p (j + 1) L := by
  intro q hq
  rw [h q hq]
  constructor
  · rintro (h1 | ⟨h0, j', h1, h2⟩)
    · exact .inl h1
    · exact .inr ⟨h0, j', by omega, h2⟩
  · rintro (h1 | ⟨h0, j', h1, h2⟩)
    · exact .inl h1
    · refine .inr ⟨h0, j', ?_, h2⟩
      by_cases e : j' = j
      · subst e; rw [hn] at h2; cases h2.1
      · omega

theorem NP.hit (h : NP W N Rk T p j L) (hr : Rk p) (hy : (T.getD j []).isPrefixOf (W.drop p) = true) {x : Nat} (hx : x = p + (T.getD j []).length) (hl : x < L.length) : NP W N Rk T p (j + 1) (L.set x true) := by
  intro q hq
  have e1 : (L.set x true).getD q false = if x = q then true else L.getD q false := by
    simp only [List.getD, List.getElem?_set]
    split
    · first | rfl | (rw [if_pos hl]; rfl)
    · rfl
  rw [e1]
  by_cases e : x = q
  · rw [if_pos e]
    refine iff_of_true rfl (.inr ⟨hr, j, by omega, hy, by omega⟩)
  · rw [if_neg e, h q hq]
    constructor
    · rintro (h1 | ⟨h0, j', h1, h2⟩)
      · exact .inl h1
      · exact .inr ⟨h0, j', by omega, h2⟩
    · rintro (h1 | ⟨h0, j', h1, h2⟩)
      · exact .inl h1
      · refine .inr ⟨h0, j', ?_, h2⟩
        by_cases ej : j' = j
        · subst ej; omega
        · omega

theorem NP.done (h : NP W N Rk T p T.length L) (hr : Rk p) : NP W N Rk T (p + 1) 0 L := by
  intro q hq
  rw [h q hq]
  constructor
  · rintro (⟨p', a, h1, h2⟩ | ⟨_, j', h1, h2, h3⟩)
    · exact .inl ⟨p', a, by omega, h2⟩
    · refine .inl ⟨p, T.getD j' [], by omega, hr, ?_, h2, h3⟩
      simp only [List.getD, List.getElem?_eq_getElem h1, Option.getD_some]
      exact List.getElem_mem h1
  · rintro (⟨p', a, h1, h2, h3, h4, h5⟩ | ⟨_, j', h1, _⟩)
    · by_cases e : p' = p
      · subst e
        obtain ⟨j', hj', rfl⟩ := List.getElem_of_mem h3
        refine .inr ⟨hr, j', hj', ?_⟩
        simp only [List.getD, List.getElem?_eq_getElem hj', Option.getD_some]
        exact ⟨h4, h5⟩
      · exact .inl ⟨p', a, by omega, h2, h3, h4, h5⟩
    · omega
end

theorem NP.fin {W : List UInt8} {S : List (List (List UInt8))} {k : Nat} {L : List Bool} (h : NP W W.length (Rch W S k) (S.getD k []) (W.length + 1) 0 L) :
    ∀ q, q ≤ W.length → (L.getD q false = true ↔ Rch W S (k + 1) q) := by
  intro q hq
  rw [h q hq]
  constructor
  · rintro (⟨p', a, _, h2, h3, h4, h5⟩ | ⟨_, j', h1, _⟩)
    · exact ⟨p', a, h2, h3, h4, h5⟩
    · omega
  · rintro ⟨p', a, h2, h3, h4, h5⟩
    exact .inl ⟨p', a, by have := Rch.le h2; omega, h2, h3, h4, h5⟩

/-- A row of bools of the call's own, in block g. -/
def BRow (w : World) (base g M : Nat) (L : List Bool) : Prop := w.ownsRow base 4 1 (.slice (some ⟨g, 0, none⟩) M M) M (L.map Value.bool)

theorem BRow.len {w : World} {base g M : Nat} {L : List Bool} (h : BRow w base g M L) : L.length = M := by
  have := h.1; simpa using this
theorem BRow.cell {w : World} {base g M : Nat} {L : List Bool} (h : BRow w base g M L) {j : Nat} (hj : j < M) : w.cell? ⟨g, j, none⟩ = some (.bool (L.getD j false)) := by
  rw [World.ownsRow.cellAt h j (by omega)]
  simp [h.len, hj]
theorem BRow.frozen {w : World} {base g M : Nat} {L : List Bool} (h : BRow w base g M L) (j : Nat) : w.frozen? ⟨g, j, none⟩ = false := World.ownsRow.frozenAt h j
theorem BRow.lt {w : World} {base g M : Nat} {L : List Bool} (h : BRow w base g M L) : g < w.heap.size := by
  obtain ⟨_, h | ⟨g', c', cur, e, _, hh, _⟩⟩ := h
  · cases h.1
  · simp at e
    obtain ⟨rfl, rfl⟩ := e
    by_cases hlt : g < w.heap.size
    · exact hlt
    · rw [Array.getElem?_eq_none (by omega)] at hh; cases hh
theorem BRow.base {w : World} {base g M : Nat} {L : List Bool} (h : BRow w base g M L) : base ≤ g := by
  obtain ⟨_, h | ⟨g', c', cur, e, hb, _⟩⟩ := h
  · cases h.1
  · simp at e; omega
theorem BRow.keep {w w' : World} {base g M : Nat} {L : List Bool} (h : BRow w base g M L) (he : w'.heap[g]? = w.heap[g]?) : BRow w' base g M L := by
  obtain ⟨h1, h | ⟨g', c', cur, e, hb, hh, hr⟩⟩ := h
  · cases h.1
  · refine ⟨h1, .inr ⟨g', c', cur, e, hb, ?_, hr⟩⟩
    simp at e
    obtain ⟨rfl, rfl⟩ := e
    rw [he]; exact hh
theorem BRow.drewN {w : World} {base g M : Nat} {L : List Bool} (h : BRow w base g M L) (n : Nat) : BRow (w.drewN n) base g M L := h
theorem BRow.set {w : World} {base g M : Nat} {L : List Bool} (h : BRow w base g M L) (j : Nat) (v : Bool) : BRow (w.setCell ⟨g, j, none⟩ (.bool v)) base g M (L.set j v) := by
  have := (World.ownsRow.stored h j (.bool v)).1
  unfold BRow
  rw [List.map_set]; exact this
theorem BRow.other {w : World} {base g M g2 : Nat} {L : List Bool} (h : BRow w base g M L) (hne : g ≠ g2) (j : Nat) (v : Value) : BRow (w.setCell ⟨g2, j, none⟩ v) base g M L :=
  h.keep (Below.heap_setCell _ _ _ _ hne)
end Go.Proofs.Qxb6602993a.Sp
