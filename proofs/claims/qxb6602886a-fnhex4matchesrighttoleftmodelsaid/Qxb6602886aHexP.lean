/-
  PLAIN: what hex4 computes, and the arithmetic that the walks meet. No Go text.
-/
import Derived.WalkKit
import Derived.Laws.BitsLemmas
namespace Go.Proofs.Qxb6602886a
open Go.RowKit

/-- One digit's value. -/
def hexv (c : Int) : Option Int :=
  if 48 ≤ c ∧ c ≤ 57 then some (c - 48) else if 97 ≤ c ∧ c ≤ 102 then some (c - 87) else if 65 ≤ c ∧ c ≤ 70 then some (c - 55) else none

/-- hex4 from the left, 'u' read so far. -/
def hexFrom (u : Int) : List Int → Option Int
  | [] => some u
  | c :: r => match hexv c with
    | none => none
    | some d => hexFrom (wrap32 (u * 16 + d)) r

def hexEnd : Option Int → Ending
  | some u => .returned (.tuple #[.int .i32 u, .bool true])
  | none => .returned (.tuple #[.int .i32 0, .bool false])

theorem wrap_i32_wrap32 (n : Int) : IntKind.i32.wrap n = wrap32 n := by rw [IntKind.wrap_i32]; unfold wrap32; rfl

theorem or_step (v d : Int) (h0 : 0 ≤ d) (h1 : d ≤ 15) : bits BinOp.or IntKind.i32 (wrap32 (v * 16)) d = wrap32 (v * 16 + d) := by
  have hA : ∃ A : Nat, (wrap32 (v * 16)) % 4294967296 = (A : Int) ∧ A % 16 = 0 ∧ A < 4294967296 := by
    refine ⟨((wrap32 (v * 16)) % 4294967296).toNat, ?_, ?_, ?_⟩ <;> unfold wrap32 <;> omega
  obtain ⟨A, e, m, l⟩ := hA
  obtain ⟨D, rfl⟩ := Int.eq_ofNat_of_zero_le h0
  have hD : D < 2 ^ 4 := by omega
  have hj : (A ||| D) = A + D := by
    have hq : A = 2 ^ 4 * (A / 2 ^ 4) := by omega
    rw [hq, ← Nat.two_pow_add_eq_or_of_lt hD (A / 2 ^ 4)]
  have e2 : (wrap32 (v * 16) % ((2 ^ 32 : Nat) : Int)).toNat = A := by
    have : ((2 ^ 32 : Nat) : Int) = 4294967296 := by decide
    rw [this, e]; rfl
  have e3 : ((D : Int) % ((2 ^ 32 : Nat) : Int)).toNat = D := by
    have : ((2 ^ 32 : Nat) : Int) = 4294967296 := by decide
    rw [this]; omega
  unfold bits
  show IntKind.i32.wrap (((BitVec.ofInt 32 (wrap32 (v * 16)) ||| BitVec.ofInt 32 (D : Int)).toNat : Nat) : Int) = _
  rw [BitVec.toNat_or, BitVec.toNat_ofInt, BitVec.toNat_ofInt, e2, e3, hj, wrap_i32_wrap32]
  unfold wrap32 at e ⊢
  omega

theorem hexv_dec {c : Int} (h : 48 ≤ c) (h' : c ≤ 57) : hexv c = some (c - 48) := by unfold hexv; rw [if_pos ⟨h, h'⟩]
theorem hexv_low {c : Int} (h : 97 ≤ c) (h' : c ≤ 102) : hexv c = some (c - 87) := by unfold hexv; rw [if_neg (by omega), if_pos ⟨h, h'⟩]
theorem hexv_upp {c : Int} (h : 65 ≤ c) (h' : c ≤ 70) : hexv c = some (c - 55) := by unfold hexv; rw [if_neg (by omega), if_neg (by omega), if_pos ⟨h, h'⟩]
theorem hexv_no {c : Int} (h1 : ¬ (48 ≤ c ∧ c ≤ 57)) (h2 : ¬ (97 ≤ c ∧ c ≤ 102)) (h3 : ¬ (65 ≤ c ∧ c ≤ 70)) : hexv c = none := by
  unfold hexv; rw [if_neg h1, if_neg h2, if_neg h3]

theorem hexFrom_some {u d : Int} {zs : List Int} {k : Nat} {c : Int} (hk : k < zs.length) (hc : zs[k] = c) (h : hexv c = some d) : hexFrom u (zs.drop k) = hexFrom (wrap32 (u * 16 + d)) (zs.drop (k + 1)) := by
  rw [List.drop_eq_getElem_cons hk, hc, hexFrom, h]
theorem hexFrom_none {u : Int} {zs : List Int} {k : Nat} {c : Int} (hk : k < zs.length) (hc : zs[k] = c) (h : hexv c = none) : hexFrom u (zs.drop k) = none := by
  rw [List.drop_eq_getElem_cons hk, hc, hexFrom, h]

end Go.Proofs.Qxb6602886a
