/-
  numStep computes nstep and nlast.
-/
import Derived.Test.Qxb6602886aStep
namespace Go.Proofs.Qxb6602886a
open Go.RowKit

set_option linter.unusedSimpArgs false

theorem last_any (s : Nat) (hs : s ≤ 8) (w : World) : Calls Try.prog 24 #[.int .i64 s, .int .u8 0, .bool true] w fun e w' => e = .returned (.int .i64 (nlast s : Nat)) ∧ w' = w := by
  match s, hs with
  | 0, _ => exact st0_end w
  | 1, _ => exact st1_end w
  | 2, _ => exact st2_end w
  | 3, _ => exact st3_end w
  | 4, _ => exact st4_end w
  | 5, _ => exact st5_end w
  | 6, _ => exact st6_end w
  | 7, _ => exact st7_end w
  | 8, _ => exact st8_end w

theorem isD_dig {c : Int} (h0 : 48 ≤ c) (h1 : c ≤ 57) : isD c = true := by simp [isD, h0, h1]
theorem isD_low {c : Int} (h : c < 48) : isD c = false := by simp [isD]; omega
theorem isD_high {c : Int} (h : 57 < c) : isD c = false := by simp [isD]; omega

theorem to_ret {f : FuncId} {args : Array Value} {w : World} {N M : Nat} (h : Calls Try.prog f args w fun e w' => e = .returned (.int .i64 (N : Int)) ∧ w' = w) (hN : M = N) :
    Calls Try.prog f args w fun e w' => e = .returned (.int .i64 (M : Int)) ∧ w' = w := by rw [hN]; exact h

theorem step_any (s : Nat) (hs : s ≤ 8) (c : Int) (w : World) : Calls Try.prog 24 #[.int .i64 s, .int .u8 c, .bool false] w fun e w' => e = .returned (.int .i64 (nstep s c : Nat)) ∧ w' = w := by
  by_cases c43 : c = 43
  · subst c43
    match s, hs with
    | 0, _ => exact st0_43 w
    | 1, _ => exact st1_43 w
    | 2, _ => exact st2_43 w
    | 3, _ => exact st3_43 w
    | 4, _ => exact st4_43 w
    | 5, _ => exact st5_43 w
    | 6, _ => exact st6_43 w
    | 7, _ => exact st7_43 w
    | 8, _ => exact st8_43 w
  by_cases c45 : c = 45
  · subst c45
    match s, hs with
    | 0, _ => exact st0_45 w
    | 1, _ => exact st1_45 w
    | 2, _ => exact st2_45 w
    | 3, _ => exact st3_45 w
    | 4, _ => exact st4_45 w
    | 5, _ => exact st5_45 w
    | 6, _ => exact st6_45 w
    | 7, _ => exact st7_45 w
    | 8, _ => exact st8_45 w
  by_cases c46 : c = 46
  · subst c46
    match s, hs with
    | 0, _ => exact st0_46 w
    | 1, _ => exact st1_46 w
    | 2, _ => exact st2_46 w
    | 3, _ => exact st3_46 w
    | 4, _ => exact st4_46 w
    | 5, _ => exact st5_46 w
    | 6, _ => exact st6_46 w
    | 7, _ => exact st7_46 w
    | 8, _ => exact st8_46 w
  by_cases c48 : c = 48
  · subst c48
    match s, hs with
    | 0, _ => exact st0_48 w
    | 1, _ => exact st1_48 w
    | 2, _ => exact st2_48 w
    | 3, _ => exact st3_48 w
    | 4, _ => exact st4_48 w
    | 5, _ => exact st5_48 w
    | 6, _ => exact st6_48 w
    | 7, _ => exact st7_48 w
    | 8, _ => exact st8_48 w
  by_cases c69 : c = 69
  · subst c69
    match s, hs with
    | 0, _ => exact st0_69 w
    | 1, _ => exact st1_69 w
    | 2, _ => exact st2_69 w
    | 3, _ => exact st3_69 w
    | 4, _ => exact st4_69 w
    | 5, _ => exact st5_69 w
    | 6, _ => exact st6_69 w
    | 7, _ => exact st7_69 w
    | 8, _ => exact st8_69 w
  by_cases c101 : c = 101
  · subst c101
    match s, hs with
    | 0, _ => exact st0_101 w
    | 1, _ => exact st1_101 w
    | 2, _ => exact st2_101 w
    | 3, _ => exact st3_101 w
    | 4, _ => exact st4_101 w
    | 5, _ => exact st5_101 w
    | 6, _ => exact st6_101 w
    | 7, _ => exact st7_101 w
    | 8, _ => exact st8_101 w
  by_cases hd : 49 ≤ c ∧ c ≤ 57
  · have e := isD_dig (c := c) (by omega) hd.2
    match s, hs with
    | 0, _ => exact to_ret (N := 3) (st0_dig c w hd.1 hd.2 (by simpa using c43) (by simpa using c45) (by simpa using c46) (by simpa using c101) (by simpa using c69)) (by simp [nstep, e, c43, c45, c46, c48, c69, c101])
    | 1, _ => exact to_ret (N := 3) (st1_dig c w hd.1 hd.2 (by simpa using c43) (by simpa using c45) (by simpa using c46) (by simpa using c101) (by simpa using c69)) (by simp [nstep, e, c43, c45, c46, c48, c69, c101])
    | 2, _ => exact to_ret (N := 10) (st2_dig c w hd.1 hd.2 (by simpa using c43) (by simpa using c45) (by simpa using c46) (by simpa using c101) (by simpa using c69)) (by simp [nstep, e, c43, c45, c46, c48, c69, c101])
    | 3, _ => exact to_ret (N := 3) (st3_dig c w hd.1 hd.2 (by simpa using c43) (by simpa using c45) (by simpa using c46) (by simpa using c101) (by simpa using c69)) (by simp [nstep, e, c43, c45, c46, c48, c69, c101])
    | 4, _ => exact to_ret (N := 5) (st4_dig c w hd.1 hd.2 (by simpa using c43) (by simpa using c45) (by simpa using c46) (by simpa using c101) (by simpa using c69)) (by simp [nstep, e, c43, c45, c46, c48, c69, c101])
    | 5, _ => exact to_ret (N := 5) (st5_dig c w hd.1 hd.2 (by simpa using c43) (by simpa using c45) (by simpa using c46) (by simpa using c101) (by simpa using c69)) (by simp [nstep, e, c43, c45, c46, c48, c69, c101])
    | 6, _ => exact to_ret (N := 8) (st6_dig c w hd.1 hd.2 (by simpa using c43) (by simpa using c45) (by simpa using c46) (by simpa using c101) (by simpa using c69)) (by simp [nstep, e, c43, c45, c46, c48, c69, c101])
    | 7, _ => exact to_ret (N := 8) (st7_dig c w hd.1 hd.2 (by simpa using c43) (by simpa using c45) (by simpa using c46) (by simpa using c101) (by simpa using c69)) (by simp [nstep, e, c43, c45, c46, c48, c69, c101])
    | 8, _ => exact to_ret (N := 8) (st8_dig c w hd.1 hd.2 (by simpa using c43) (by simpa using c45) (by simpa using c46) (by simpa using c101) (by simpa using c69)) (by simp [nstep, e, c43, c45, c46, c48, c69, c101])
  by_cases hd2 : c < 48
  · have e := isD_low hd2
    match s, hs with
    | 0, _ => exact to_ret (N := 10) (st0_low c w hd2 (by simpa using c43) (by simpa using c45) (by simpa using c46) (by simpa using c101) (by simpa using c69)) (by simp [nstep, e, c43, c45, c46, c48, c69, c101])
    | 1, _ => exact to_ret (N := 10) (st1_low c w hd2 (by simpa using c43) (by simpa using c45) (by simpa using c46) (by simpa using c101) (by simpa using c69)) (by simp [nstep, e, c43, c45, c46, c48, c69, c101])
    | 2, _ => exact to_ret (N := 9) (st2_low c w hd2 (by simpa using c43) (by simpa using c45) (by simpa using c46) (by simpa using c101) (by simpa using c69)) (by simp [nstep, e, c43, c45, c46, c48, c69, c101])
    | 3, _ => exact to_ret (N := 9) (st3_low c w hd2 (by simpa using c43) (by simpa using c45) (by simpa using c46) (by simpa using c101) (by simpa using c69)) (by simp [nstep, e, c43, c45, c46, c48, c69, c101])
    | 4, _ => exact to_ret (N := 10) (st4_low c w hd2 (by simpa using c43) (by simpa using c45) (by simpa using c46) (by simpa using c101) (by simpa using c69)) (by simp [nstep, e, c43, c45, c46, c48, c69, c101])
    | 5, _ => exact to_ret (N := 9) (st5_low c w hd2 (by simpa using c43) (by simpa using c45) (by simpa using c46) (by simpa using c101) (by simpa using c69)) (by simp [nstep, e, c43, c45, c46, c48, c69, c101])
    | 6, _ => exact to_ret (N := 10) (st6_low c w hd2 (by simpa using c43) (by simpa using c45) (by simpa using c46) (by simpa using c101) (by simpa using c69)) (by simp [nstep, e, c43, c45, c46, c48, c69, c101])
    | 7, _ => exact to_ret (N := 10) (st7_low c w hd2 (by simpa using c43) (by simpa using c45) (by simpa using c46) (by simpa using c101) (by simpa using c69)) (by simp [nstep, e, c43, c45, c46, c48, c69, c101])
    | 8, _ => exact to_ret (N := 9) (st8_low c w hd2 (by simpa using c43) (by simpa using c45) (by simpa using c46) (by simpa using c101) (by simpa using c69)) (by simp [nstep, e, c43, c45, c46, c48, c69, c101])
  · have hd3 : 57 < c := by omega
    have e := isD_high hd3
    match s, hs with
    | 0, _ => exact to_ret (N := 10) (st0_high c w hd3 (by simpa using c69) (by simpa using c101) (by simpa using c43) (by simpa using c45) (by simpa using c46)) (by simp [nstep, e, c43, c45, c46, c48, c69, c101])
    | 1, _ => exact to_ret (N := 10) (st1_high c w hd3 (by simpa using c69) (by simpa using c101) (by simpa using c43) (by simpa using c45) (by simpa using c46)) (by simp [nstep, e, c43, c45, c46, c48, c69, c101])
    | 2, _ => exact to_ret (N := 9) (st2_high c w hd3 (by simpa using c69) (by simpa using c101) (by simpa using c43) (by simpa using c45) (by simpa using c46)) (by simp [nstep, e, c43, c45, c46, c48, c69, c101])
    | 3, _ => exact to_ret (N := 9) (st3_high c w hd3 (by simpa using c69) (by simpa using c101) (by simpa using c43) (by simpa using c45) (by simpa using c46)) (by simp [nstep, e, c43, c45, c46, c48, c69, c101])
    | 4, _ => exact to_ret (N := 10) (st4_high c w hd3 (by simpa using c69) (by simpa using c101) (by simpa using c43) (by simpa using c45) (by simpa using c46)) (by simp [nstep, e, c43, c45, c46, c48, c69, c101])
    | 5, _ => exact to_ret (N := 9) (st5_high c w hd3 (by simpa using c69) (by simpa using c101) (by simpa using c43) (by simpa using c45) (by simpa using c46)) (by simp [nstep, e, c43, c45, c46, c48, c69, c101])
    | 6, _ => exact to_ret (N := 10) (st6_high c w hd3 (by simpa using c69) (by simpa using c101) (by simpa using c43) (by simpa using c45) (by simpa using c46)) (by simp [nstep, e, c43, c45, c46, c48, c69, c101])
    | 7, _ => exact to_ret (N := 10) (st7_high c w hd3 (by simpa using c69) (by simpa using c101) (by simpa using c43) (by simpa using c45) (by simpa using c46)) (by simp [nstep, e, c43, c45, c46, c48, c69, c101])
    | 8, _ => exact to_ret (N := 9) (st8_high c w hd3 (by simpa using c69) (by simpa using c101) (by simpa using c43) (by simpa using c45) (by simpa using c46)) (by simp [nstep, e, c43, c45, c46, c48, c69, c101])
end Go.Proofs.Qxb6602886a
