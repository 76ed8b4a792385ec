/-
  PLAIN: a spelling's ways, by suffixes and by sets of positions: the two agree. No Go text.
-/
import Derived.WalkKit
namespace Go.Proofs.Qxb6602993a.Sp

/-- By suffixes. -/
def mB : List (List (List UInt8)) → List UInt8 → Bool
  | [], w => w.isEmpty
  | P :: R, w => P.any fun a => a.isPrefixOf w && mB R (w.drop a.length)

/-- By positions: q is reached behind the first k parts. -/
def Rch (W : List UInt8) (S : List (List (List UInt8))) : Nat → Nat → Prop
  | 0, q => q = 0
  | k + 1, q => ∃ p a, Rch W S k p ∧ a ∈ S.getD k [] ∧ a.isPrefixOf (W.drop p) = true ∧ q = p + a.length

theorem pre_len {a W : List UInt8} {p : Nat} (h : a.isPrefixOf (W.drop p) = true) : a.length ≤ W.length - p := by
  have := (List.isPrefixOf_iff_prefix.1 h).length_le
  simpa using this

theorem Rch.le {W : List UInt8} {S : List (List (List UInt8))} : ∀ {k q : Nat}, Rch W S k q → q ≤ W.length
  | 0, q, h => by rw [show q = 0 from h]; omega
  | k + 1, q, ⟨p, a, h1, _, h3, h4⟩ => by
    have := Rch.le h1
    have := pre_len h3
    omega

theorem drop_at {S : List (List (List UInt8))} {k : Nat} (h : k < S.length) : S.drop k = S.getD k [] :: S.drop (k + 1) := by
  rw [List.drop_eq_getElem_cons h]
  congr 1
  simp [List.getD, h]

theorem fwd (W : List UInt8) (S : List (List (List UInt8))) : ∀ n k p, k + n = S.length → p ≤ W.length → Rch W S k p → mB (S.drop k) (W.drop p) = true → Rch W S S.length W.length := by
  intro n
  induction n with
  | zero =>
    intro k p hk hp hr hm
    rw [List.drop_of_length_le (by omega)] at hm
    simp [mB] at hm
    have : p = W.length := by omega
    have hk' : k = S.length := by omega
    rw [← this, ← hk']; exact hr
  | succ n ih =>
    intro k p hk hp hr hm
    rw [drop_at (by omega), mB, List.any_eq_true] at hm
    obtain ⟨a, ha, h2⟩ := hm
    rw [Bool.and_eq_true, List.drop_drop] at h2
    have := pre_len h2.1
    exact ih (k + 1) (p + a.length) (by omega) (by omega) ⟨p, a, hr, ha, h2.1, rfl⟩ h2.2

theorem bwd (W : List UInt8) (S : List (List (List UInt8))) : ∀ k p, k ≤ S.length → Rch W S k p → mB (S.drop k) (W.drop p) = true → mB S W = true := by
  intro k
  induction k with
  | zero =>
    intro p _ hr hm
    rw [show p = 0 from hr] at hm
    simpa using hm
  | succ k ih =>
    intro q hk hr hm
    obtain ⟨p, a, h1, h2, h3, rfl⟩ := hr
    refine ih p (by omega) h1 ?_
    rw [drop_at (by omega), mB, List.any_eq_true]
    refine ⟨a, h2, ?_⟩
    rw [Bool.and_eq_true, List.drop_drop]
    exact ⟨h3, hm⟩

/-- THE PLAIN LAW. -/
theorem agree (W : List UInt8) (S : List (List (List UInt8))) : mB S W = true ↔ Rch W S S.length W.length := by
  constructor
  · intro h
    exact fwd W S S.length 0 0 (by omega) (by omega) rfl (by simpa using h)
  · intro h
    refine bwd W S S.length W.length (Nat.le_refl _) h ?_
    simp [mB]
end Go.Proofs.Qxb6602993a.Sp
