/-
  THE PLAIN LAW OF THE PATHS. No program.
-/
import Derived.Test.Qxb6603412aF
namespace Go.Proofs.Qxb6603412a
open Go.RowKit Go.Maps
set_option linter.unusedVariables false

/-- Two kept locks conflict, k before j. -/
def Cf (K : List (Int × Bool)) (k j : Nat) : Prop := k < j ∧ j < K.length ∧ (K.getD k (0, false)).1 ≠ (K.getD j (0, false)).1 ∧ ((K.getD k (0, false)).2 || (K.getD j (0, false)).2) = true
/-- An edge between them. -/
def Ed (pg : Int) (K : List (Int × Bool)) (k j : Nat) : Int × Int × Int := ((K.getD k (0, false)).1, (K.getD j (0, false)).1, pg)

theorem mem_rowL (pg : Int) (y : Int × Bool) : ∀ (P : List (Int × Bool)) (e : Int × Int × Int), e ∈ rowL pg P y ↔ ∃ k, k < P.length ∧ e = ((P.getD k (0, false)).1, y.1, pg) ∧ (P.getD k (0, false)).1 ≠ y.1 ∧ ((P.getD k (0, false)).2 || y.2) = true ∧ ((P.drop (k + 1)).all fun b => !b.2) = true
  | [], e => by simp [rowL]
  | a :: P, e => by
    rw [rowL, List.mem_append, mem_rowL pg y P e]
    constructor
    · rintro (h | ⟨k, h1, h2, h3, h4, h5⟩)
      · split at h
        · rename_i hc
          simp at h
          exact ⟨0, by simp, by simpa using h, by simpa using hc.1, by simpa using hc.2.1, by simpa using hc.2.2⟩
        · simp at h
      · exact ⟨k + 1, by simpa using h1, by simpa using h2, by simpa using h3, by simpa using h4, by simpa using h5⟩
    · rintro ⟨k, h1, h2, h3, h4, h5⟩
      cases k with
      | zero =>
        left
        simp only [List.getD_cons_zero] at h2 h3 h4
        rw [if_pos ⟨h3, h4, by simpa using h5⟩]
        simp [h2]
      | succ k =>
        right
        exact ⟨k, by simpa using h1, by simpa using h2, by simpa using h3, by simpa using h4, by simpa using h5⟩

theorem mem_restL (pg : Int) (K : List (Int × Bool)) (e : Int × Int × Int) : ∀ (n j : Nat), K.length - j = n → j ≤ K.length → (e ∈ restL pg (K.take j) (K.drop j) ↔ ∃ i k, j ≤ i ∧ Cf K k i ∧ e = Ed pg K k i ∧ (((K.take i).drop (k + 1)).all fun b => !b.2) = true)
  | 0, j, hn, hj => by
    rw [List.drop_of_length_le (by omega)]
    simp only [restL]
    constructor
    · intro h; simp at h
    · rintro ⟨i, k, h1, h2, _⟩
      have := h2.2.1; omega
  | n + 1, j, hn, hj => by
    have hjl : j < K.length := by omega
    rw [rest_step pg K hjl rfl, List.mem_append, mem_rowL, mem_restL pg K e n (j + 1) (by omega) (by omega)]
    have hg : ∀ k, k < j → (K.take j).getD k (0, false) = K.getD k (0, false) := fun k hk => by simp [List.getD, hk]
    constructor
    · rintro (⟨k, h1, h2, h3, h4, h5⟩ | ⟨i, k, h1, h2⟩)
      · have hk : k < j := by rw [List.length_take] at h1; omega
        rw [hg k hk] at h2 h3 h4
        exact ⟨j, k, Nat.le_refl _, ⟨hk, hjl, h3, h4⟩, h2, h5⟩
      · exact ⟨i, k, by omega, h2⟩
    · rintro ⟨i, k, h1, h2, h3, h4⟩
      by_cases e : i = j
      · subst e
        left
        have hk := h2.1
        refine ⟨k, by rw [List.length_take]; omega, ?_, ?_, ?_, h4⟩
        · rw [hg k hk]; exact h3
        · rw [hg k hk]; exact h2.2.2.1
        · rw [hg k hk]; exact h2.2.2.2
      · exact .inr ⟨i, k, by omega, h2, h3, h4⟩

theorem mem_edges (pg : Int) (K : List (Int × Bool)) (e : Int × Int × Int) : e ∈ restL pg [] K ↔ ∃ i k, Cf K k i ∧ e = Ed pg K k i ∧ (((K.take i).drop (k + 1)).all fun b => !b.2) = true := by
  have := mem_restL pg K e K.length 0 (by omega) (by omega)
  simpa using this

/-- What is closed under the edges is closed under conflicts. -/
theorem path_law (pg : Int) (K : List (Int × Bool)) (P : Int → Prop) (hP : ∀ e ∈ restL pg [] K, P e.1 → P e.2.1) : ∀ (n k j : Nat), j - k ≤ n → k < j → j < K.length → ((K.getD k (0, false)).2 || (K.getD j (0, false)).2) = true → P (K.getD k (0, false)).1 → P (K.getD j (0, false)).1
  | 0, k, j, hn, hkj, _, _, _ => by omega
  | n + 1, k, j, hn, hkj, hj, hx, hk => by
    by_cases hall : (((K.take j).drop (k + 1)).all fun b => !b.2) = true
    · by_cases e : (K.getD k (0, false)).1 = (K.getD j (0, false)).1
      · rw [← e]; exact hk
      · exact hP (Ed pg K k j) ((mem_edges pg K _).2 ⟨j, k, ⟨hkj, hj, e, hx⟩, rfl, hall⟩) hk
    · have : ∃ b ∈ (K.take j).drop (k + 1), b.2 = true := by
        by_cases hex : ∃ b ∈ (K.take j).drop (k + 1), b.2 = true
        · exact hex
        · exfalso
          apply hall
          rw [List.all_eq_true]
          intro b hb
          cases hb2 : b.2
          · rfl
          · exact absurd ⟨b, hb, hb2⟩ hex
      obtain ⟨b, hb, hb2⟩ := this
      obtain ⟨q, hq, rfl⟩ := List.mem_iff_getElem.1 hb
      rw [List.length_drop, List.length_take] at hq
      have hl : k + 1 + q < j := by omega
      have hbe : ((K.take j).drop (k + 1))[q]'(by rw [List.length_drop, List.length_take]; exact hq) = K.getD (k + 1 + q) (0, false) := by
        rw [List.getElem_drop, List.getElem_take]
        simp [List.getD, show k + 1 + q < K.length by omega]
      rw [hbe] at hb2
      have h1 := path_law pg K P hP n k (k + 1 + q) (by omega) (by omega) (by omega) (by rw [hb2]; simp) hk
      exact path_law pg K P hP n (k + 1 + q) j (by omega) (by omega) hj (by rw [hb2]; rfl) h1

/-- THE LAW: a set that holds every target of an edge from u, and is closed under the edges, holds whatever u conflicts with. -/
theorem reach_law (pg : Int) (K : List (Int × Bool)) (P : Int → Prop) {k j : Nat} (hc : Cf K k j) (h0 : ∀ e ∈ restL pg [] K, e.1 = (K.getD k (0, false)).1 → P e.2.1) (hP : ∀ e ∈ restL pg [] K, P e.1 → P e.2.1) : P (K.getD j (0, false)).1 := by
  have h := path_law pg K (fun x => x = (K.getD k (0, false)).1 ∨ P x) (fun e he h => .inr (by
    rcases h with h | h
    · exact h0 e he h
    · exact hP e he h)) (j - k) k j (Nat.le_refl _) hc.1 hc.2.1 hc.2.2.2 (.inl rfl)
  rcases h with h | h
  · exact absurd h.symm hc.2.2.1
  · exact h
end Go.Proofs.Qxb6603412a
