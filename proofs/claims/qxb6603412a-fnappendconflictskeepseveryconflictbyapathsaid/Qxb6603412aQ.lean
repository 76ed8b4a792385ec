/-
  PLAIN: the positions of the kept locks' transactions; the conflict matrix; the lists of successors. No program.
-/
import Derived.Test.Qxb6603412aN
namespace Go.Proofs.Qxb6603412a
set_option linter.unusedVariables false

/-- The transaction at position k, and where it lies in ids. -/
def kt (K : List (Int × Bool)) (k : Nat) : Int := (K.getD k (0, false)).1
def kx (ids : List Int) (K : List (Int × Bool)) (k : Nat) : Nat := ix ids (kt K k)

/-- The row of positions, filled up to i. -/
def kidR (ids : List Int) (K : List (Int × Bool)) (i : Nat) : List Nat := (List.range K.length).map fun q => if q < i then kx ids K q else 0
theorem kidR_len (ids : List Int) (K : List (Int × Bool)) (i : Nat) : (kidR ids K i).length = K.length := by simp [kidR]
theorem kidR_zero (ids : List Int) (K : List (Int × Bool)) : kidR ids K 0 = List.replicate K.length 0 := by
  apply List.ext_getElem (by simp [kidR])
  intro q h1 h2
  simp [kidR]
theorem kidR_set (ids : List Int) (K : List (Int × Bool)) {i : Nat} (hi : i < K.length) : (kidR ids K i).set i (kx ids K i) = kidR ids K (i + 1) := by
  apply List.ext_getElem (by simp [kidR])
  intro q h1 h2
  rw [List.getElem_set]
  simp only [kidR, List.getElem_map, List.getElem_range]
  by_cases e : i = q
  · subst e; simp
  · rw [if_neg e]
    by_cases h : q < i
    · rw [if_pos h, if_pos (by omega)]
    · rw [if_neg h, if_neg (by omega)]
theorem kidR_at (ids : List Int) (K : List (Int × Bool)) {k : Nat} (hk : k < K.length) : (kidR ids K K.length).getD k 0 = kx ids K k := by
  simp [kidR, List.getD, hk]

/-- The matrix: true where a pair that is done conflicts. -/
def Mx (ids : List Int) (K : List (Int × Bool)) (C : List Bool) (done : Nat → Nat → Prop) : Prop :=
  C.length = ids.length * ids.length ∧ ∀ q, C.getD q false = true ↔ ∃ k j, done k j ∧ Cf K k j ∧ q = kx ids K k * ids.length + kx ids K j
theorem Mx.start (ids : List Int) (K : List (Int × Bool)) (done : Nat → Nat → Prop) (hd : ∀ k j, ¬ done k j) : Mx ids K (List.replicate (ids.length * ids.length) false) done := by
  refine ⟨by simp, fun q => ?_⟩
  constructor
  · intro h
    simp only [List.getD, List.getElem?_replicate] at h
    split at h <;> simp at h
  · rintro ⟨k, j, h, _⟩
    exact absurd h (hd k j)
theorem Mx.mono {ids : List Int} {K : List (Int × Bool)} {C : List Bool} {done done' : Nat → Nat → Prop} (h : Mx ids K C done) (hd : ∀ k j, Cf K k j → (done' k j ↔ done k j)) : Mx ids K C done' := by
  refine ⟨h.1, fun q => ?_⟩
  rw [h.2 q]
  constructor
  · rintro ⟨k, j, h1, h2, h3⟩; exact ⟨k, j, (hd k j h2).2 h1, h2, h3⟩
  · rintro ⟨k, j, h1, h2, h3⟩; exact ⟨k, j, (hd k j h2).1 h1, h2, h3⟩
theorem Mx.put {ids : List Int} {K : List (Int × Bool)} {C : List Bool} {done done' : Nat → Nat → Prop} {k j : Nat} (h : Mx ids K C done) (hc : Cf K k j) (hq : kx ids K k * ids.length + kx ids K j < ids.length * ids.length)
    (hd : ∀ k' j', done' k' j' ↔ done k' j' ∨ (k' = k ∧ j' = j)) : Mx ids K (C.set (kx ids K k * ids.length + kx ids K j) true) done' := by
  refine ⟨by rw [List.length_set]; exact h.1, fun q => ?_⟩
  simp only [List.getD, List.getElem?_set]
  by_cases e : kx ids K k * ids.length + kx ids K j = q
  · subst e
    rw [if_pos rfl, if_pos (by rw [h.1]; exact hq)]
    simp only [Option.getD_some, true_iff]
    exact ⟨k, j, (hd k j).2 (.inr ⟨rfl, rfl⟩), hc, rfl⟩
  · rw [if_neg e]
    have := h.2 q
    simp only [List.getD] at this
    rw [this]
    constructor
    · rintro ⟨k', j', h1, h2, h3⟩; exact ⟨k', j', (hd k' j').2 (.inl h1), h2, h3⟩
    · rintro ⟨k', j', h1, h2, h3⟩
      rcases (hd k' j').1 h1 with h4 | ⟨rfl, rfl⟩
      · exact ⟨k', j', h4, h2, h3⟩
      · exact absurd h3.symm e

/-- A position in a square. -/
theorem sq_lt {a b d : Nat} (ha : a < d) (hb : b < d) : a * d + b < d * d := by
  have h1 : (a + 1) * d ≤ d * d := Nat.mul_le_mul_right d ha
  rw [Nat.add_mul] at h1
  omega
theorem sq_inj {a b a' b' d : Nat} (hb : b < d) (hb' : b' < d) (e : a * d + b = a' * d + b') : a = a' ∧ b = b' := by
  have hd : 0 < d := by omega
  have h1 : (a * d + b) / d = a := by rw [Nat.mul_comm, Nat.mul_add_div hd, Nat.div_eq_of_lt hb, Nat.add_zero]
  have h2 : (a' * d + b') / d = a' := by rw [Nat.mul_comm, Nat.mul_add_div hd, Nat.div_eq_of_lt hb', Nat.add_zero]
  have h3 : a = a' := by rw [← h1, e, h2]
  subst h3
  exact ⟨rfl, by omega⟩

/-- The successors, after i edges. -/
def adjL (ids : List Int) (Et : List (Int × Int × Int)) : List (List Nat) := (List.range ids.length).map fun a => (Et.filter fun e => ix ids e.1 == a).map fun e => ix ids e.2.1
theorem adjL_at (ids : List Int) (Et : List (Int × Int × Int)) {a : Nat} (ha : a < ids.length) : (adjL ids Et).getD a [] = (Et.filter fun e => ix ids e.1 == a).map fun e => ix ids e.2.1 := by
  simp [adjL, List.getD, ha]
theorem adjL_nil (ids : List Int) : adjL ids [] = List.replicate ids.length [] := by
  apply List.ext_getElem (by simp [adjL])
  intro q h1 h2
  simp [adjL]
theorem adjL_snoc (ids : List Int) (Et : List (Int × Int × Int)) (e : Int × Int × Int) : (adjL ids Et).set (ix ids e.1) ((adjL ids Et).getD (ix ids e.1) [] ++ [ix ids e.2.1]) = adjL ids (Et ++ [e]) := by
  apply List.ext_getElem (by simp [adjL])
  intro q h1 h2
  have hq : q < ids.length := by simpa [adjL] using h2
  rw [List.getElem_set]
  by_cases h : ix ids e.1 = q
  · rw [if_pos h]
    subst h
    rw [adjL_at ids Et hq]
    simp [adjL]
  · rw [if_neg h]
    simp [adjL, h]
end Go.Proofs.Qxb6603412a
