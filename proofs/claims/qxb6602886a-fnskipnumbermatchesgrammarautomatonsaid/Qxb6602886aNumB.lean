/-
  PLAIN: the stages of skipNumber's grammar, by places in the whole list.
-/
import Derived.Test.Qxb6602886aNumP
namespace Go.Proofs.Qxb6602886a

def dotB (ys : List Int) (k : Nat) : Bool := decide (k < ys.length) && (ys.getD k 0 == 46)
def expB (ys : List Int) (k : Nat) : Bool := decide (k < ys.length) && (ys.getD k 0 == 101 || ys.getD k 0 == 69)
def signB (ys : List Int) (k : Nat) : Bool := decide (k < ys.length) && (ys.getD k 0 == 43 || ys.getD k 0 == 45)

theorem drop_at {ys : List Int} {k : Nat} (h : k < ys.length) : ys.drop k = ys.getD k 0 :: ys.drop (k + 1) := by
  rw [List.drop_eq_getElem_cons h]
  congr 1
  simp [List.getD, h]

theorem L1 {ys : List Int} {i : Nat} (h : i < ys.length) : skipP (ys.drop i) i = if ys.getD i 0 = 45 then intPart (ys.drop (i + 1)) (i + 1) else intPart (ys.drop i) i := by
  rw [drop_at h, skipP]

theorem dc_le (l : List Int) : dc l ≤ l.length := by
  induction l with
  | nil => simp [dc]
  | cons c r ih => simp only [dc]; split <;> simp <;> omega
theorem dc_drop_le (ys : List Int) (k : Nat) (h : k ≤ ys.length) : k + dc (ys.drop k) ≤ ys.length := by
  have := dc_le (ys.drop k); simp at this; omega
theorem dc_pos_lt {ys : List Int} {k : Nat} (h : dc (ys.drop k) ≠ 0) : k < ys.length := by
  by_cases hk : k < ys.length
  · exact hk
  · rw [List.drop_of_length_le (by omega)] at h; exact absurd rfl h

theorem L2a {ys : List Int} {k : Nat} (h : dc (ys.drop k) = 0) : intPart (ys.drop k) k = none := by
  unfold intPart; rw [if_pos (.inl h)]
theorem L2b {ys : List Int} {k : Nat} (h : 1 < dc (ys.drop k)) (h' : ys.getD k 0 = 48) : intPart (ys.drop k) k = none := by
  have hk := dc_pos_lt (ys := ys) (k := k) (by omega)
  unfold intPart
  rw [if_pos (.inr ⟨h, by rw [drop_at hk]; exact h'⟩)]
theorem L2c {ys : List Int} {k : Nat} (h : dc (ys.drop k) ≠ 0) (h' : ¬ (1 < dc (ys.drop k) ∧ ys.getD k 0 = 48)) : intPart (ys.drop k) k = fracPart (ys.drop (k + dc (ys.drop k))) (k + dc (ys.drop k)) := by
  have hk := dc_pos_lt (ys := ys) (k := k) (by omega)
  unfold intPart
  rw [if_neg]
  · rw [List.drop_drop]
  · intro hh
    rcases hh with h1 | ⟨h1, h2⟩
    · exact h h1
    · exact h' ⟨h1, by rw [drop_at hk] at h2; exact h2⟩

theorem L3n {ys : List Int} {k : Nat} (h : dotB ys k = false) : fracPart (ys.drop k) k = expPart (ys.drop k) k := by
  by_cases hk : k < ys.length
  · rw [drop_at hk]
    have h' : ¬ ys.getD k 0 = 46 := by
      unfold dotB at h
      rw [decide_eq_true hk, Bool.true_and] at h
      intro hh
      rw [hh] at h; simp at h
    unfold fracPart
    simp only [if_neg h']
  · rw [List.drop_of_length_le (by omega)]; rfl
theorem dotB_lt {ys : List Int} {k : Nat} (h : dotB ys k = true) : k < ys.length ∧ ys.getD k 0 = 46 := by
  unfold dotB at h; simp at h; exact ⟨h.1, by simpa using h.2⟩
theorem L3y0 {ys : List Int} {k : Nat} (h : dotB ys k = true) (h0 : dc (ys.drop (k + 1)) = 0) : fracPart (ys.drop k) k = none := by
  obtain ⟨hk, hc⟩ := dotB_lt h
  rw [drop_at hk, hc]; simp [fracPart, h0]
theorem L3y {ys : List Int} {k : Nat} (h : dotB ys k = true) (h0 : dc (ys.drop (k + 1)) ≠ 0) :
    fracPart (ys.drop k) k = expPart (ys.drop (k + 1 + dc (ys.drop (k + 1)))) (k + 1 + dc (ys.drop (k + 1))) := by
  obtain ⟨hk, hc⟩ := dotB_lt h
  rw [drop_at hk, hc]; simp [fracPart, h0]

theorem expB_lt {ys : List Int} {k : Nat} (h : expB ys k = true) : k < ys.length ∧ (ys.getD k 0 = 101 ∨ ys.getD k 0 = 69) := by
  unfold expB at h; simp at h; exact ⟨h.1, by simpa using h.2⟩
theorem L4n {ys : List Int} {k : Nat} (h : expB ys k = false) : expPart (ys.drop k) k = some k := by
  by_cases hk : k < ys.length
  · rw [drop_at hk]
    have h' : ¬ (ys.getD k 0 = 101 ∨ ys.getD k 0 = 69) := by
      unfold expB at h
      rw [decide_eq_true hk, Bool.true_and] at h
      intro hh
      rcases hh with hh | hh <;> rw [hh] at h <;> simp at h
    unfold expPart
    simp only [if_neg h']
  · rw [List.drop_of_length_le (by omega)]; rfl
theorem signB_lt {ys : List Int} {k : Nat} (h : signB ys k = true) : k < ys.length ∧ (ys.getD k 0 = 43 ∨ ys.getD k 0 = 45) := by
  unfold signB at h; simp at h; exact ⟨h.1, by simpa using h.2⟩
theorem L4y {ys : List Int} {k : Nat} (h : expB ys k = true) : expPart (ys.drop k) k = if signB ys (k + 1) then expDigits (ys.drop (k + 2)) (k + 2) else expDigits (ys.drop (k + 1)) (k + 1) := by
  obtain ⟨hk, hc⟩ := expB_lt h
  rw [drop_at hk]
  unfold expPart
  simp only [if_pos hc]
  by_cases hk1 : k + 1 < ys.length
  · rw [drop_at hk1]
    by_cases hs : ys.getD (k + 1) 0 = 43 ∨ ys.getD (k + 1) 0 = 45
    · have : signB ys (k + 1) = true := by
        unfold signB; rw [decide_eq_true hk1, Bool.true_and]
        rcases hs with hs | hs <;> rw [hs] <;> rfl
      simp only [if_pos hs, this, if_true]
    · have : signB ys (k + 1) = false := by
        by_cases hb : signB ys (k + 1) = true
        · exact absurd (signB_lt hb).2 hs
        · simpa using hb
      simp only [if_neg hs, this]; rfl
  · have hd : ys.drop (k + 1) = [] := List.drop_of_length_le (by omega)
    have : signB ys (k + 1) = false := by
      by_cases hb : signB ys (k + 1) = true
      · exact absurd (signB_lt hb).1 hk1
      · simpa using hb
    rw [hd, this]; rfl

/-- What the reader's two fields hold behind the call. -/
def resI (o : Option Nat) (len : Nat) : Int := match o with
  | some k => k
  | none => len
def resB (o : Option Nat) (bad : Bool) : Bool := match o with
  | some _ => bad
  | none => true
end Go.Proofs.Qxb6602886a
