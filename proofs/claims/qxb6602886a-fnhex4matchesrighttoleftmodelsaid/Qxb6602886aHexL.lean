/-
  PLAIN: hex4 from the left and the model from the right come to one number modulo 2^32.
-/
import Derived.Test.Qxb6602886aHexP
namespace Go.Proofs.Qxb6602886a
open Go.RowKit

/-- The value of a spelling, from the right; none where a byte is no digit. -/
def hexS : List Int → Option Int
  | [] => some 0
  | c :: r => match hexv c, hexS r with
    | some d, some v => some (d * (16 : Int) ^ r.length + v)
    | _, _ => none

theorem hexS_none {c : Int} {r : List Int} (h : hexv c = none) : hexS (c :: r) = none := by
  unfold hexS; rw [h]
theorem hexS_none' {c : Int} {r : List Int} (h : hexS r = none) : hexS (c :: r) = none := by
  unfold hexS; rw [h]; cases hexv c <;> rfl
theorem hexS_some {c d v : Int} {r : List Int} (h : hexv c = some d) (h' : hexS r = some v) : hexS (c :: r) = some (d * (16 : Int) ^ r.length + v) := by
  rw [hexS]; rw [h, h']

theorem wrap32_mod (a b : Int) (h : a % 4294967296 = b % 4294967296) : wrap32 a = wrap32 b := by
  unfold wrap32; omega
theorem wrap32_emod (a : Int) : wrap32 a % 4294967296 = a % 4294967296 := by unfold wrap32; omega

theorem mul_add_mod (a b p v : Int) (h : a % 4294967296 = b % 4294967296) : (a * p + v) % 4294967296 = (b * p + v) % 4294967296 := by
  rw [Int.add_emod, Int.mul_emod, h, ← Int.mul_emod, ← Int.add_emod]

theorem hexFrom_S (ys : List Int) : ∀ u : Int, wrap32 u = u → hexFrom u ys = (hexS ys).map (fun v => wrap32 (u * (16 : Int) ^ ys.length + v)) := by
  induction ys with
  | nil => intro u hu; simp [hexFrom, hexS, hu]
  | cons c r ih =>
    intro u hu
    rw [hexFrom]
    cases h : hexv c with
    | none => rw [hexS_none h]; rfl
    | some d =>
      show hexFrom (wrap32 (u * 16 + d)) r = _
      rw [ih _ (by rw [wrap32_mod _ _ (wrap32_emod _)])]
      cases h' : hexS r with
      | none => rw [hexS_none' h']; rfl
      | some v =>
        rw [hexS_some h h']
        simp only [Option.map_some]
        congr 1
        refine wrap32_mod _ _ ?_
        rw [mul_add_mod _ _ _ _ (wrap32_emod _), List.length_cons, Int.pow_succ]
        congr 1
        rw [Int.add_mul, Int.mul_assoc u 16, Int.mul_comm 16, Int.add_assoc]

theorem hexFrom_zero (ys : List Int) : hexFrom 0 ys = (hexS ys).map wrap32 := by
  rw [hexFrom_S ys 0 (by unfold wrap32; omega)]
  congr 1; funext v; rw [Int.zero_mul, Int.zero_add]

/-- A byte that is no digit, anywhere: no value. -/
theorem hexS_bad (ys : List Int) (k : Nat) (hk : k < ys.length) (h : hexv ys[k] = none) : hexS ys = none := by
  induction ys generalizing k with
  | nil => simp at hk
  | cons c r ih =>
    cases k with
    | zero => exact hexS_none (by simpa using h)
    | succ k => exact hexS_none' (ih k (by simpa using hk) (by simpa using h))

theorem hexS_drop (ys : List Int) (k : Nat) (hk : k < ys.length) (d v : Int) (h : hexv ys[k] = some d) (h' : hexS (ys.drop (k + 1)) = some v) :
    hexS (ys.drop k) = some (d * (16 : Int) ^ (ys.length - (k + 1)) + v) := by
  rw [List.drop_eq_getElem_cons hk, hexS_some h h', List.length_drop]

theorem step_want (v d p : Int) : (v % 4294967296 + (d * (p % 4294967296)) % 4294967296) % 4294967296 = (d * p + v) % 4294967296 := by
  rw [← Int.add_emod, Int.add_comm, Int.add_emod, Int.mul_emod, Int.emod_emod_of_dvd _ (Int.dvd_refl _), ← Int.mul_emod, ← Int.add_emod]
theorem step_weight (n : Nat) : ((16 : Int) ^ n % 4294967296 * 16) % 4294967296 = (16 : Int) ^ (n + 1) % 4294967296 := by
  rw [Int.pow_succ, Int.mul_emod, Int.emod_emod_of_dvd _ (Int.dvd_refl _), ← Int.mul_emod]
theorem hexv_rng {c d : Int} (h : hexv c = some d) : 0 ≤ d ∧ d ≤ 15 := by
  unfold hexv at h
  split at h
  · simp at h; omega
  · split at h
    · simp at h; omega
    · split at h
      · simp at h; omega
      · cases h
end Go.Proofs.Qxb6602886a
