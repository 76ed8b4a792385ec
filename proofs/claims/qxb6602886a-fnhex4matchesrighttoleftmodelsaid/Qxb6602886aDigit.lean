/-
  THE WALK OF hexDigitOf.
-/
import Derived.Test.Qxb6602886aRows
import Derived.Test.Qxb6602886aHexP
import Derived.WalkLawsBesides
import Derived.WalkSpells
import Derived.ProofKit
namespace Go.Proofs.Qxb6602886a
open Go.RowKit

abbrev tableB : ByteArray := { data := #[48, 49, 50, 51, 52, 53, 54, 55, 56, 57, 97, 98, 99, 100, 101, 102, 65, 66, 67, 68, 69, 70] }

theorem tableB_at (k : Nat) (h : k < 22) : ((tableB[k]'h).toNat : Int) = if k < 10 then 48 + (k : Int) else if k < 16 then 87 + (k : Int) else 49 + (k : Int) := by
  match k, h with
  | 0, _ => rfl
  | 1, _ => rfl
  | 2, _ => rfl
  | 3, _ => rfl
  | 4, _ => rfl
  | 5, _ => rfl
  | 6, _ => rfl
  | 7, _ => rfl
  | 8, _ => rfl
  | 9, _ => rfl
  | 10, _ => rfl
  | 11, _ => rfl
  | 12, _ => rfl
  | 13, _ => rfl
  | 14, _ => rfl
  | 15, _ => rfl
  | 16, _ => rfl
  | 17, _ => rfl
  | 18, _ => rfl
  | 19, _ => rfl
  | 20, _ => rfl
  | 21, _ => rfl
  | n + 22, h => exact absurd h (by omega)

def digEnd : Option Int → Ending
  | some d => .returned (.tuple #[.int .u32 d, .bool true])
  | none => .returned (.tuple #[.int .u32 0, .bool false])

theorem ret_dig {a b : Int} (h : a = b) : Ending.returned (.tuple #[.int .u32 a, .bool true]) = .returned (.tuple #[.int .u32 b, .bool true]) := by rw [h]

set_option maxHeartbeats 1000000 in
/-- Found at place P of the table (P = 22: nowhere). -/
theorem digit_at (c : Int) (P : Nat) (o : Option Int) (w : World) (hP : P ≤ 22) (hne : ∀ k (h : k < 22), k < P → ((tableB[k]'h).toNat : Int) ≠ c) (heq : ∀ h : P < 22, ((tableB[P]'h).toNat : Int) = c)
    (hlo : P < 16 → o = some (P : Int)) (hhi : 16 ≤ P → P < 22 → o = some ((P : Int) - 6)) (hno : P = 22 → o = none) :
    Calls Try.prog 11 #[.int .u8 c] w fun e w' => e = digEnd o ∧ w' = w := by
  have HN : Hid (∀ k (h : k < 22), k < P → ((tableB[k]'h).toNat : Int) ≠ c) := hne
  have HE : Hid (∀ h : P < 22, ((tableB[P]'h).toNat : Int) = c) := heq
  have HL : Hid (P < 16 → o = some (P : Int)) := hlo
  have HH : Hid (16 ≤ P → P < 22 → o = some ((P : Int) - 6)) := hhi
  have H0 : Hid (P = 22 → o = none) := hno
  clear hne heq hlo hhi hno
  go_enter Try.func11, Try.ntmps11
  go_wp2
  go_loop [4] (fun i => ∃ k : Nat, k ≤ P ∧ i = .int .i64 k) (fun i => 22 - (intOf i).toNat)
  case atStart => exact ⟨0, Nat.zero_le _, rfl⟩
  case round =>
    obtain ⟨k, hk, rfl⟩ := hrel
    by_cases hlt : k < 22
    · by_cases hkP : k < P
      · have ht : (((tableB[k]'hlt).toNat : Int) == c) = false := by simpa using HN.out k hlt hkP
        unfold tableB at ht
        go_wp2
        go_round
        case rel => exact ⟨k + 1, by omega, by go_num⟩
        case measure => simp [intOf]; omega
      · have hke : k = P := by omega
        have ht : (((tableB[k]'hlt).toNat : Int) == c) = true := by subst hke; simpa using HE.out hlt
        unfold tableB at ht
        have HK : Hid (k = P) := hke
        clear hke hkP
        by_cases h16 : k < 16
        · have HO : Hid (o = some (k : Int)) := by have := HL.out; rw [← HK.out] at this; exact this h16
          go_wp2
          go_ret2
          exact ⟨by rw [HO.out]; rfl, rfl⟩
        · have HO : Hid (o = some ((k : Int) - 6)) := by have := HH.out; rw [← HK.out] at this; exact this (by omega) hlt
          go_wp2
          go_ret2
          exact ⟨by rw [HO.out]; rfl, rfl⟩
    · have HO : Hid (o = none) := H0.out (by omega)
      go_wp2
      go_ret2
      exact ⟨by rw [HO.out]; rfl, rfl⟩

theorem digit_any (c : Int) (w : World) : Calls Try.prog 11 #[.int .u8 c] w fun e w' => e = digEnd (hexv c) ∧ w' = w := by
  by_cases h1 : 48 ≤ c ∧ c ≤ 57
  · rw [hexv_dec h1.1 h1.2]
    refine digit_at c (c - 48).toNat _ w (by omega) ?_ ?_ ?_ ?_ ?_
    · intro k h hk; rw [tableB_at k h]; split <;> (try split) <;> omega
    · intro h; rw [tableB_at _ h]; split <;> (try split) <;> omega
    · intro _; congr 1; omega
    · intro _ _; omega
    · intro _; omega
  by_cases h2 : 97 ≤ c ∧ c ≤ 102
  · rw [hexv_low h2.1 h2.2]
    refine digit_at c (c - 87).toNat _ w (by omega) ?_ ?_ ?_ ?_ ?_
    · intro k h hk; rw [tableB_at k h]; split <;> (try split) <;> omega
    · intro h; rw [tableB_at _ h]; split <;> (try split) <;> omega
    · intro _; congr 1; omega
    · intro _ _; omega
    · intro _; omega
  by_cases h3 : 65 ≤ c ∧ c ≤ 70
  · rw [hexv_upp h3.1 h3.2]
    refine digit_at c (c - 49).toNat _ w (by omega) ?_ ?_ ?_ ?_ ?_
    · intro k h hk; rw [tableB_at k h]; split <;> (try split) <;> omega
    · intro h; rw [tableB_at _ h]; split <;> (try split) <;> omega
    · intro _; omega
    · intro _ _; congr 1; omega
    · intro _; omega
  · rw [hexv_no h1 h2 h3]
    refine digit_at c 22 _ w (by omega) ?_ ?_ ?_ ?_ ?_
    · intro k h hk; rw [tableB_at k h]; split <;> (try split) <;> omega
    · intro h; omega
    · intro _; omega
    · intro _ _; omega
    · intro _; rfl
end Go.Proofs.Qxb6602886a
