/-
  THE WALK OF numberEnd.
-/
import Derived.Test.Qxb6602886aStepB
import Derived.Test.Qxb6602886aNumB
namespace Go.Proofs.Qxb6602886a
open Go.RowKit

def endEnd : Option Nat → Ending
  | some j => .returned (.tuple #[.int .i64 (j : Int), .bool true])
  | none => .returned (.tuple #[.int .i64 0, .bool false])

theorem nstep_le (s : Nat) (c : Int) : nstep s c ≤ 10 := by
  unfold nstep
  split <;> repeat' split
  all_goals omega
theorem nlast_or (s : Nat) : nlast s = 9 ∨ nlast s = 10 := by unfold nlast; split <;> simp

theorem end_step {ys : List Int} {k s : Nat} {c : Int} (hk : k < ys.length) (hc : ys.getD k 0 = c) :
    endFrom s (ys.drop k) k = if nstep s c = 9 then some k else if nstep s c = 10 then none else endFrom (nstep s c) (ys.drop (k + 1)) (k + 1) := by
  rw [drop_at hk, endFrom, hc]

set_option maxHeartbeats 2000000 in
theorem numberEnd_any (B : Nat) (ys : List Int) (i : Nat) (w : World) (hi : i ≤ ys.length) (hl : ys.length ≤ 1048576)
    (hbytes : ∀ k, k < ys.length → w.cell? ⟨B, k, none⟩ = some (.int .u8 (ys.getD k 0))) :
    Calls Try.prog 19 #[.slice (some ⟨B, 0, none⟩) ys.length ys.length, .int .i64 i] w fun e w' => e = endEnd (endFrom 0 (ys.drop i) i) ∧ w' = w := by
  have HB : Hid (∀ k, k < ys.length → w.cell? ⟨B, k, none⟩ = some (.int .u8 (ys.getD k 0))) := hbytes
  obtain ⟨O, hO⟩ : ∃ O, endFrom 0 (ys.drop i) i = O := ⟨_, rfl⟩
  have HO : Hid (O = endFrom 0 (ys.drop i) i) := hO.symm
  rw [hO]
  clear hbytes hO
  go_enter Try.func19, Try.ntmps19
  go_wp2
  go_loop [6, 7] (fun st j => ∃ s k : Nat, s ≤ 8 ∧ k ≤ ys.length ∧ st = .int .i64 s ∧ j = .int .i64 k ∧ Hid (O = endFrom s (ys.drop k) k)) (fun _ j => ys.length + 1 - (intOf j).toNat)
  case atStart => exact ⟨0, i, by omega, hi, rfl, rfl, HO⟩
  case round =>
    obtain ⟨s, k, hs, hk, rfl, rfl, HR⟩ := hrel
    by_cases hlt : k < ys.length
    · have hcell := HB.out k hlt
      obtain ⟨c, hc⟩ : ∃ c, ys.getD k 0 = c := ⟨_, rfl⟩
      have HE := end_step (s := s) hlt hc
      have HH : Hid (O = if nstep s c = 9 then some k else if nstep s c = 10 then none else endFrom (nstep s c) (ys.drop (k + 1)) (k + 1)) := by show _ = _; rw [HR.out, HE]
      rw [hc] at hcell
      clear hc HE HR
      have hne : ((k : Int) == (ys.length : Int)) = false := by simp; omega
      have HS : Hid (Calls Try.prog 24 #[.int .i64 s, .int .u8 c, .bool false] w fun e w' => e = .returned (.int .i64 (nstep s c : Nat)) ∧ w' = w) := step_any s hs c w
      have hn := nstep_le s c
      obtain ⟨n, hnn⟩ : ∃ n, nstep s c = n := ⟨_, rfl⟩
      rw [hnn] at HS HH hn
      clear hnn
      by_cases h9 : n = 9
      · subst h9
        have HF : Hid (O = some k) := by show _ = _; rw [HH.out, if_pos rfl]
        go_wp2_with (go_at_call 24; refine HS.out.mono ?_; rintro e w' ⟨rfl, rfl⟩)
        go_ret2
        exact ⟨by rw [HF.out]; rfl, rfl⟩
      · by_cases h10 : n = 10
        · subst h10
          have HF : Hid (O = none) := by show _ = _; rw [HH.out, if_neg (by decide), if_pos rfl]
          go_wp2_with (go_at_call 24; refine HS.out.mono ?_; rintro e w' ⟨rfl, rfl⟩)
          go_ret2
          exact ⟨by rw [HF.out]; rfl, rfl⟩
        · have HF : Hid (O = endFrom n (ys.drop (k + 1)) (k + 1)) := by show _ = _; rw [HH.out, if_neg h9, if_neg h10]
          have h9b : ((n : Int) == 9) = false := by simp; omega
          have h10b : ((n : Int) == 10) = false := by simp; omega
          clear h9 h10
          go_wp2_with (go_at_call 24; refine HS.out.mono ?_; rintro e w' ⟨rfl, rfl⟩)
          go_round
          case rel => exact ⟨n, k + 1, by have := of_decide_eq_false (p := (n : Int) = 9) (by simpa using h9b); have := of_decide_eq_false (p := (n : Int) = 10) (by simpa using h10b); omega, by omega, rfl, by go_num, HF⟩
          case measure => simp [intOf]; omega
    · have hke : k = ys.length := by omega
      have hne : ((k : Int) == (ys.length : Int)) = true := by simp; omega
      have HS : Hid (Calls Try.prog 24 #[.int .i64 s, .int .u8 0, .bool true] w fun e w' => e = .returned (.int .i64 (nlast s : Nat)) ∧ w' = w) := last_any s hs w
      have HH : Hid (O = if nlast s = 9 then some k else none) := by
        show _ = _
        rw [HR.out, List.drop_of_length_le (by omega), endFrom]
      have HKE : Hid (k = ys.length) := hke
      clear hke hlt
      have hkl : (k : Int) ≤ (ys.length : Int) := by omega
      rcases nlast_or s with h | h
      · rw [h] at HS HH
        have HF : Hid (O = some k) := by show _ = _; rw [HH.out, if_pos rfl]
        clear h
        go_wp2_with (go_at_call 24; refine HS.out.mono ?_; rintro e w' ⟨rfl, rfl⟩)
        go_ret2
        exact ⟨by rw [HF.out]; rfl, rfl⟩
      · rw [h] at HS HH
        have HF : Hid (O = none) := by show _ = _; rw [HH.out, if_neg (by decide)]
        clear h
        go_wp2_with (go_at_call 24; refine HS.out.mono ?_; rintro e w' ⟨rfl, rfl⟩)
        go_ret2
        exact ⟨by rw [HF.out]; rfl, rfl⟩
end Go.Proofs.Qxb6602886a
