/-
  THE WALK OF numStep: a state and a class of bytes at a time.
-/
import Derived.Test.Qxb6602886aRows
import Derived.Test.Qxb6602886aNumP
import Derived.WalkLawsBesides
import Derived.WalkSpells
import Derived.ProofKit
namespace Go.Proofs.Qxb6602886a
open Go.RowKit
set_option linter.unusedVariables false

set_option maxHeartbeats 1000000 in
theorem st0_43 (w : World)  : Calls Try.prog 24 #[.int .i64 0, .int .u8 43, .bool false] w fun e w' => e = .returned (.int .i64 10) ∧ w' = w := by
  go_enter Try.func24, Try.ntmps24
  go_wp2
  go_ret
  exact ⟨rfl, rfl⟩
set_option maxHeartbeats 1000000 in
theorem st0_45 (w : World)  : Calls Try.prog 24 #[.int .i64 0, .int .u8 45, .bool false] w fun e w' => e = .returned (.int .i64 1) ∧ w' = w := by
  go_enter Try.func24, Try.ntmps24
  go_wp2
  go_ret
  exact ⟨rfl, rfl⟩
set_option maxHeartbeats 1000000 in
theorem st0_46 (w : World)  : Calls Try.prog 24 #[.int .i64 0, .int .u8 46, .bool false] w fun e w' => e = .returned (.int .i64 10) ∧ w' = w := by
  go_enter Try.func24, Try.ntmps24
  go_wp2
  go_ret
  exact ⟨rfl, rfl⟩
set_option maxHeartbeats 1000000 in
theorem st0_48 (w : World)  : Calls Try.prog 24 #[.int .i64 0, .int .u8 48, .bool false] w fun e w' => e = .returned (.int .i64 2) ∧ w' = w := by
  go_enter Try.func24, Try.ntmps24
  go_wp2
  go_ret
  exact ⟨rfl, rfl⟩
set_option maxHeartbeats 1000000 in
theorem st0_69 (w : World)  : Calls Try.prog 24 #[.int .i64 0, .int .u8 69, .bool false] w fun e w' => e = .returned (.int .i64 10) ∧ w' = w := by
  go_enter Try.func24, Try.ntmps24
  go_wp2
  go_ret
  exact ⟨rfl, rfl⟩
set_option maxHeartbeats 1000000 in
theorem st0_101 (w : World)  : Calls Try.prog 24 #[.int .i64 0, .int .u8 101, .bool false] w fun e w' => e = .returned (.int .i64 10) ∧ w' = w := by
  go_enter Try.func24, Try.ntmps24
  go_wp2
  go_ret
  exact ⟨rfl, rfl⟩
set_option maxHeartbeats 1000000 in
theorem st0_dig (c : Int) (w : World) (h0 : 49 ≤ c) (h1 : c ≤ 57) (h2 : (c == 43) = false) (h3 : (c == 45) = false) (h4 : (c == 46) = false) (h5 : (c == 101) = false) (h6 : (c == 69) = false) : Calls Try.prog 24 #[.int .i64 0, .int .u8 c, .bool false] w fun e w' => e = .returned (.int .i64 3) ∧ w' = w := by
  go_enter Try.func24, Try.ntmps24
  go_wp2
  go_ret
  exact ⟨rfl, rfl⟩
set_option maxHeartbeats 1000000 in
theorem st0_low (c : Int) (w : World) (h0 : c < 48) (h1 : (c == 43) = false) (h2 : (c == 45) = false) (h3 : (c == 46) = false) (h4 : (c == 101) = false) (h5 : (c == 69) = false) : Calls Try.prog 24 #[.int .i64 0, .int .u8 c, .bool false] w fun e w' => e = .returned (.int .i64 10) ∧ w' = w := by
  go_enter Try.func24, Try.ntmps24
  go_wp2
  go_ret
  exact ⟨rfl, rfl⟩
set_option maxHeartbeats 1000000 in
theorem st0_high (c : Int) (w : World) (h0 : 57 < c) (h1 : (c == 69) = false) (h2 : (c == 101) = false) (h3 : (c == 43) = false) (h4 : (c == 45) = false) (h5 : (c == 46) = false) : Calls Try.prog 24 #[.int .i64 0, .int .u8 c, .bool false] w fun e w' => e = .returned (.int .i64 10) ∧ w' = w := by
  go_enter Try.func24, Try.ntmps24
  go_wp2
  go_ret
  exact ⟨rfl, rfl⟩
set_option maxHeartbeats 1000000 in
theorem st0_end (w : World) : Calls Try.prog 24 #[.int .i64 0, .int .u8 0, .bool true] w fun e w' => e = .returned (.int .i64 10) ∧ w' = w := by
  go_enter Try.func24, Try.ntmps24
  go_wp2
  go_ret
  exact ⟨rfl, rfl⟩
set_option maxHeartbeats 1000000 in
theorem st1_43 (w : World)  : Calls Try.prog 24 #[.int .i64 1, .int .u8 43, .bool false] w fun e w' => e = .returned (.int .i64 10) ∧ w' = w := by
  go_enter Try.func24, Try.ntmps24
  go_wp2
  go_ret
  exact ⟨rfl, rfl⟩
set_option maxHeartbeats 1000000 in
theorem st1_45 (w : World)  : Calls Try.prog 24 #[.int .i64 1, .int .u8 45, .bool false] w fun e w' => e = .returned (.int .i64 10) ∧ w' = w := by
  go_enter Try.func24, Try.ntmps24
  go_wp2
  go_ret
  exact ⟨rfl, rfl⟩
set_option maxHeartbeats 1000000 in
theorem st1_46 (w : World)  : Calls Try.prog 24 #[.int .i64 1, .int .u8 46, .bool false] w fun e w' => e = .returned (.int .i64 10) ∧ w' = w := by
  go_enter Try.func24, Try.ntmps24
  go_wp2
  go_ret
  exact ⟨rfl, rfl⟩
set_option maxHeartbeats 1000000 in
theorem st1_48 (w : World)  : Calls Try.prog 24 #[.int .i64 1, .int .u8 48, .bool false] w fun e w' => e = .returned (.int .i64 2) ∧ w' = w := by
  go_enter Try.func24, Try.ntmps24
  go_wp2
  go_ret
  exact ⟨rfl, rfl⟩
set_option maxHeartbeats 1000000 in
theorem st1_69 (w : World)  : Calls Try.prog 24 #[.int .i64 1, .int .u8 69, .bool false] w fun e w' => e = .returned (.int .i64 10) ∧ w' = w := by
  go_enter Try.func24, Try.ntmps24
  go_wp2
  go_ret
  exact ⟨rfl, rfl⟩
set_option maxHeartbeats 1000000 in
theorem st1_101 (w : World)  : Calls Try.prog 24 #[.int .i64 1, .int .u8 101, .bool false] w fun e w' => e = .returned (.int .i64 10) ∧ w' = w := by
  go_enter Try.func24, Try.ntmps24
  go_wp2
  go_ret
  exact ⟨rfl, rfl⟩
set_option maxHeartbeats 1000000 in
theorem st1_dig (c : Int) (w : World) (h0 : 49 ≤ c) (h1 : c ≤ 57) (h2 : (c == 43) = false) (h3 : (c == 45) = false) (h4 : (c == 46) = false) (h5 : (c == 101) = false) (h6 : (c == 69) = false) : Calls Try.prog 24 #[.int .i64 1, .int .u8 c, .bool false] w fun e w' => e = .returned (.int .i64 3) ∧ w' = w := by
  go_enter Try.func24, Try.ntmps24
  go_wp2
  go_ret
  exact ⟨rfl, rfl⟩
set_option maxHeartbeats 1000000 in
theorem st1_low (c : Int) (w : World) (h0 : c < 48) (h1 : (c == 43) = false) (h2 : (c == 45) = false) (h3 : (c == 46) = false) (h4 : (c == 101) = false) (h5 : (c == 69) = false) : Calls Try.prog 24 #[.int .i64 1, .int .u8 c, .bool false] w fun e w' => e = .returned (.int .i64 10) ∧ w' = w := by
  go_enter Try.func24, Try.ntmps24
  go_wp2
  go_ret
  exact ⟨rfl, rfl⟩
set_option maxHeartbeats 1000000 in
theorem st1_high (c : Int) (w : World) (h0 : 57 < c) (h1 : (c == 69) = false) (h2 : (c == 101) = false) (h3 : (c == 43) = false) (h4 : (c == 45) = false) (h5 : (c == 46) = false) : Calls Try.prog 24 #[.int .i64 1, .int .u8 c, .bool false] w fun e w' => e = .returned (.int .i64 10) ∧ w' = w := by
  go_enter Try.func24, Try.ntmps24
  go_wp2
  go_ret
  exact ⟨rfl, rfl⟩
set_option maxHeartbeats 1000000 in
theorem st1_end (w : World) : Calls Try.prog 24 #[.int .i64 1, .int .u8 0, .bool true] w fun e w' => e = .returned (.int .i64 10) ∧ w' = w := by
  go_enter Try.func24, Try.ntmps24
  go_wp2
  go_ret
  exact ⟨rfl, rfl⟩
set_option maxHeartbeats 1000000 in
theorem st2_43 (w : World)  : Calls Try.prog 24 #[.int .i64 2, .int .u8 43, .bool false] w fun e w' => e = .returned (.int .i64 9) ∧ w' = w := by
  go_enter Try.func24, Try.ntmps24
  go_wp2
  go_ret
  exact ⟨rfl, rfl⟩
set_option maxHeartbeats 1000000 in
theorem st2_45 (w : World)  : Calls Try.prog 24 #[.int .i64 2, .int .u8 45, .bool false] w fun e w' => e = .returned (.int .i64 9) ∧ w' = w := by
  go_enter Try.func24, Try.ntmps24
  go_wp2
  go_ret
  exact ⟨rfl, rfl⟩
set_option maxHeartbeats 1000000 in
theorem st2_46 (w : World)  : Calls Try.prog 24 #[.int .i64 2, .int .u8 46, .bool false] w fun e w' => e = .returned (.int .i64 4) ∧ w' = w := by
  go_enter Try.func24, Try.ntmps24
  go_wp2
  go_ret
  exact ⟨rfl, rfl⟩
set_option maxHeartbeats 1000000 in
theorem st2_48 (w : World)  : Calls Try.prog 24 #[.int .i64 2, .int .u8 48, .bool false] w fun e w' => e = .returned (.int .i64 10) ∧ w' = w := by
  go_enter Try.func24, Try.ntmps24
  go_wp2
  go_ret
  exact ⟨rfl, rfl⟩
set_option maxHeartbeats 1000000 in
theorem st2_69 (w : World)  : Calls Try.prog 24 #[.int .i64 2, .int .u8 69, .bool false] w fun e w' => e = .returned (.int .i64 6) ∧ w' = w := by
  go_enter Try.func24, Try.ntmps24
  go_wp2
  go_ret
  exact ⟨rfl, rfl⟩
set_option maxHeartbeats 1000000 in
theorem st2_101 (w : World)  : Calls Try.prog 24 #[.int .i64 2, .int .u8 101, .bool false] w fun e w' => e = .returned (.int .i64 6) ∧ w' = w := by
  go_enter Try.func24, Try.ntmps24
  go_wp2
  go_ret
  exact ⟨rfl, rfl⟩
set_option maxHeartbeats 1000000 in
theorem st2_dig (c : Int) (w : World) (h0 : 49 ≤ c) (h1 : c ≤ 57) (h2 : (c == 43) = false) (h3 : (c == 45) = false) (h4 : (c == 46) = false) (h5 : (c == 101) = false) (h6 : (c == 69) = false) : Calls Try.prog 24 #[.int .i64 2, .int .u8 c, .bool false] w fun e w' => e = .returned (.int .i64 10) ∧ w' = w := by
  go_enter Try.func24, Try.ntmps24
  go_wp2
  go_ret
  exact ⟨rfl, rfl⟩
set_option maxHeartbeats 1000000 in
theorem st2_low (c : Int) (w : World) (h0 : c < 48) (h1 : (c == 43) = false) (h2 : (c == 45) = false) (h3 : (c == 46) = false) (h4 : (c == 101) = false) (h5 : (c == 69) = false) : Calls Try.prog 24 #[.int .i64 2, .int .u8 c, .bool false] w fun e w' => e = .returned (.int .i64 9) ∧ w' = w := by
  go_enter Try.func24, Try.ntmps24
  go_wp2
  go_ret
  exact ⟨rfl, rfl⟩
set_option maxHeartbeats 1000000 in
theorem st2_high (c : Int) (w : World) (h0 : 57 < c) (h1 : (c == 69) = false) (h2 : (c == 101) = false) (h3 : (c == 43) = false) (h4 : (c == 45) = false) (h5 : (c == 46) = false) : Calls Try.prog 24 #[.int .i64 2, .int .u8 c, .bool false] w fun e w' => e = .returned (.int .i64 9) ∧ w' = w := by
  go_enter Try.func24, Try.ntmps24
  go_wp2
  go_ret
  exact ⟨rfl, rfl⟩
set_option maxHeartbeats 1000000 in
theorem st2_end (w : World) : Calls Try.prog 24 #[.int .i64 2, .int .u8 0, .bool true] w fun e w' => e = .returned (.int .i64 9) ∧ w' = w := by
  go_enter Try.func24, Try.ntmps24
  go_wp2
  go_ret
  exact ⟨rfl, rfl⟩
set_option maxHeartbeats 1000000 in
theorem st3_43 (w : World)  : Calls Try.prog 24 #[.int .i64 3, .int .u8 43, .bool false] w fun e w' => e = .returned (.int .i64 9) ∧ w' = w := by
  go_enter Try.func24, Try.ntmps24
  go_wp2
  go_ret
  exact ⟨rfl, rfl⟩
set_option maxHeartbeats 1000000 in
theorem st3_45 (w : World)  : Calls Try.prog 24 #[.int .i64 3, .int .u8 45, .bool false] w fun e w' => e = .returned (.int .i64 9) ∧ w' = w := by
  go_enter Try.func24, Try.ntmps24
  go_wp2
  go_ret
  exact ⟨rfl, rfl⟩
set_option maxHeartbeats 1000000 in
theorem st3_46 (w : World)  : Calls Try.prog 24 #[.int .i64 3, .int .u8 46, .bool false] w fun e w' => e = .returned (.int .i64 4) ∧ w' = w := by
  go_enter Try.func24, Try.ntmps24
  go_wp2
  go_ret
  exact ⟨rfl, rfl⟩
set_option maxHeartbeats 1000000 in
theorem st3_48 (w : World)  : Calls Try.prog 24 #[.int .i64 3, .int .u8 48, .bool false] w fun e w' => e = .returned (.int .i64 3) ∧ w' = w := by
  go_enter Try.func24, Try.ntmps24
  go_wp2
  go_ret
  exact ⟨rfl, rfl⟩
set_option maxHeartbeats 1000000 in
theorem st3_69 (w : World)  : Calls Try.prog 24 #[.int .i64 3, .int .u8 69, .bool false] w fun e w' => e = .returned (.int .i64 6) ∧ w' = w := by
  go_enter Try.func24, Try.ntmps24
  go_wp2
  go_ret
  exact ⟨rfl, rfl⟩
set_option maxHeartbeats 1000000 in
theorem st3_101 (w : World)  : Calls Try.prog 24 #[.int .i64 3, .int .u8 101, .bool false] w fun e w' => e = .returned (.int .i64 6) ∧ w' = w := by
  go_enter Try.func24, Try.ntmps24
  go_wp2
  go_ret
  exact ⟨rfl, rfl⟩
set_option maxHeartbeats 1000000 in
theorem st3_dig (c : Int) (w : World) (h0 : 49 ≤ c) (h1 : c ≤ 57) (h2 : (c == 43) = false) (h3 : (c == 45) = false) (h4 : (c == 46) = false) (h5 : (c == 101) = false) (h6 : (c == 69) = false) : Calls Try.prog 24 #[.int .i64 3, .int .u8 c, .bool false] w fun e w' => e = .returned (.int .i64 3) ∧ w' = w := by
  go_enter Try.func24, Try.ntmps24
  go_wp2
  go_ret
  exact ⟨rfl, rfl⟩
set_option maxHeartbeats 1000000 in
theorem st3_low (c : Int) (w : World) (h0 : c < 48) (h1 : (c == 43) = false) (h2 : (c == 45) = false) (h3 : (c == 46) = false) (h4 : (c == 101) = false) (h5 : (c == 69) = false) : Calls Try.prog 24 #[.int .i64 3, .int .u8 c, .bool false] w fun e w' => e = .returned (.int .i64 9) ∧ w' = w := by
  go_enter Try.func24, Try.ntmps24
  go_wp2
  go_ret
  exact ⟨rfl, rfl⟩
set_option maxHeartbeats 1000000 in
theorem st3_high (c : Int) (w : World) (h0 : 57 < c) (h1 : (c == 69) = false) (h2 : (c == 101) = false) (h3 : (c == 43) = false) (h4 : (c == 45) = false) (h5 : (c == 46) = false) : Calls Try.prog 24 #[.int .i64 3, .int .u8 c, .bool false] w fun e w' => e = .returned (.int .i64 9) ∧ w' = w := by
  go_enter Try.func24, Try.ntmps24
  go_wp2
  go_ret
  exact ⟨rfl, rfl⟩
set_option maxHeartbeats 1000000 in
theorem st3_end (w : World) : Calls Try.prog 24 #[.int .i64 3, .int .u8 0, .bool true] w fun e w' => e = .returned (.int .i64 9) ∧ w' = w := by
  go_enter Try.func24, Try.ntmps24
  go_wp2
  go_ret
  exact ⟨rfl, rfl⟩
set_option maxHeartbeats 1000000 in
theorem st4_43 (w : World)  : Calls Try.prog 24 #[.int .i64 4, .int .u8 43, .bool false] w fun e w' => e = .returned (.int .i64 10) ∧ w' = w := by
  go_enter Try.func24, Try.ntmps24
  go_wp2
  go_ret
  exact ⟨rfl, rfl⟩
set_option maxHeartbeats 1000000 in
theorem st4_45 (w : World)  : Calls Try.prog 24 #[.int .i64 4, .int .u8 45, .bool false] w fun e w' => e = .returned (.int .i64 10) ∧ w' = w := by
  go_enter Try.func24, Try.ntmps24
  go_wp2
  go_ret
  exact ⟨rfl, rfl⟩
set_option maxHeartbeats 1000000 in
theorem st4_46 (w : World)  : Calls Try.prog 24 #[.int .i64 4, .int .u8 46, .bool false] w fun e w' => e = .returned (.int .i64 10) ∧ w' = w := by
  go_enter Try.func24, Try.ntmps24
  go_wp2
  go_ret
  exact ⟨rfl, rfl⟩
set_option maxHeartbeats 1000000 in
theorem st4_48 (w : World)  : Calls Try.prog 24 #[.int .i64 4, .int .u8 48, .bool false] w fun e w' => e = .returned (.int .i64 5) ∧ w' = w := by
  go_enter Try.func24, Try.ntmps24
  go_wp2
  go_ret
  exact ⟨rfl, rfl⟩
set_option maxHeartbeats 1000000 in
theorem st4_69 (w : World)  : Calls Try.prog 24 #[.int .i64 4, .int .u8 69, .bool false] w fun e w' => e = .returned (.int .i64 10) ∧ w' = w := by
  go_enter Try.func24, Try.ntmps24
  go_wp2
  go_ret
  exact ⟨rfl, rfl⟩
set_option maxHeartbeats 1000000 in
theorem st4_101 (w : World)  : Calls Try.prog 24 #[.int .i64 4, .int .u8 101, .bool false] w fun e w' => e = .returned (.int .i64 10) ∧ w' = w := by
  go_enter Try.func24, Try.ntmps24
  go_wp2
  go_ret
  exact ⟨rfl, rfl⟩
set_option maxHeartbeats 1000000 in
theorem st4_dig (c : Int) (w : World) (h0 : 49 ≤ c) (h1 : c ≤ 57) (h2 : (c == 43) = false) (h3 : (c == 45) = false) (h4 : (c == 46) = false) (h5 : (c == 101) = false) (h6 : (c == 69) = false) : Calls Try.prog 24 #[.int .i64 4, .int .u8 c, .bool false] w fun e w' => e = .returned (.int .i64 5) ∧ w' = w := by
  go_enter Try.func24, Try.ntmps24
  go_wp2
  go_ret
  exact ⟨rfl, rfl⟩
set_option maxHeartbeats 1000000 in
theorem st4_low (c : Int) (w : World) (h0 : c < 48) (h1 : (c == 43) = false) (h2 : (c == 45) = false) (h3 : (c == 46) = false) (h4 : (c == 101) = false) (h5 : (c == 69) = false) : Calls Try.prog 24 #[.int .i64 4, .int .u8 c, .bool false] w fun e w' => e = .returned (.int .i64 10) ∧ w' = w := by
  go_enter Try.func24, Try.ntmps24
  go_wp2
  go_ret
  exact ⟨rfl, rfl⟩
set_option maxHeartbeats 1000000 in
theorem st4_high (c : Int) (w : World) (h0 : 57 < c) (h1 : (c == 69) = false) (h2 : (c == 101) = false) (h3 : (c == 43) = false) (h4 : (c == 45) = false) (h5 : (c == 46) = false) : Calls Try.prog 24 #[.int .i64 4, .int .u8 c, .bool false] w fun e w' => e = .returned (.int .i64 10) ∧ w' = w := by
  go_enter Try.func24, Try.ntmps24
  go_wp2
  go_ret
  exact ⟨rfl, rfl⟩
set_option maxHeartbeats 1000000 in
theorem st4_end (w : World) : Calls Try.prog 24 #[.int .i64 4, .int .u8 0, .bool true] w fun e w' => e = .returned (.int .i64 10) ∧ w' = w := by
  go_enter Try.func24, Try.ntmps24
  go_wp2
  go_ret
  exact ⟨rfl, rfl⟩
set_option maxHeartbeats 1000000 in
theorem st5_43 (w : World)  : Calls Try.prog 24 #[.int .i64 5, .int .u8 43, .bool false] w fun e w' => e = .returned (.int .i64 9) ∧ w' = w := by
  go_enter Try.func24, Try.ntmps24
  go_wp2
  go_ret
  exact ⟨rfl, rfl⟩
set_option maxHeartbeats 1000000 in
theorem st5_45 (w : World)  : Calls Try.prog 24 #[.int .i64 5, .int .u8 45, .bool false] w fun e w' => e = .returned (.int .i64 9) ∧ w' = w := by
  go_enter Try.func24, Try.ntmps24
  go_wp2
  go_ret
  exact ⟨rfl, rfl⟩
set_option maxHeartbeats 1000000 in
theorem st5_46 (w : World)  : Calls Try.prog 24 #[.int .i64 5, .int .u8 46, .bool false] w fun e w' => e = .returned (.int .i64 9) ∧ w' = w := by
  go_enter Try.func24, Try.ntmps24
  go_wp2
  go_ret
  exact ⟨rfl, rfl⟩
set_option maxHeartbeats 1000000 in
theorem st5_48 (w : World)  : Calls Try.prog 24 #[.int .i64 5, .int .u8 48, .bool false] w fun e w' => e = .returned (.int .i64 5) ∧ w' = w := by
  go_enter Try.func24, Try.ntmps24
  go_wp2
  go_ret
  exact ⟨rfl, rfl⟩
set_option maxHeartbeats 1000000 in
theorem st5_69 (w : World)  : Calls Try.prog 24 #[.int .i64 5, .int .u8 69, .bool false] w fun e w' => e = .returned (.int .i64 6) ∧ w' = w := by
  go_enter Try.func24, Try.ntmps24
  go_wp2
  go_ret
  exact ⟨rfl, rfl⟩
set_option maxHeartbeats 1000000 in
theorem st5_101 (w : World)  : Calls Try.prog 24 #[.int .i64 5, .int .u8 101, .bool false] w fun e w' => e = .returned (.int .i64 6) ∧ w' = w := by
  go_enter Try.func24, Try.ntmps24
  go_wp2
  go_ret
  exact ⟨rfl, rfl⟩
set_option maxHeartbeats 1000000 in
theorem st5_dig (c : Int) (w : World) (h0 : 49 ≤ c) (h1 : c ≤ 57) (h2 : (c == 43) = false) (h3 : (c == 45) = false) (h4 : (c == 46) = false) (h5 : (c == 101) = false) (h6 : (c == 69) = false) : Calls Try.prog 24 #[.int .i64 5, .int .u8 c, .bool false] w fun e w' => e = .returned (.int .i64 5) ∧ w' = w := by
  go_enter Try.func24, Try.ntmps24
  go_wp2
  go_ret
  exact ⟨rfl, rfl⟩
set_option maxHeartbeats 1000000 in
theorem st5_low (c : Int) (w : World) (h0 : c < 48) (h1 : (c == 43) = false) (h2 : (c == 45) = false) (h3 : (c == 46) = false) (h4 : (c == 101) = false) (h5 : (c == 69) = false) : Calls Try.prog 24 #[.int .i64 5, .int .u8 c, .bool false] w fun e w' => e = .returned (.int .i64 9) ∧ w' = w := by
  go_enter Try.func24, Try.ntmps24
  go_wp2
  go_ret
  exact ⟨rfl, rfl⟩
set_option maxHeartbeats 1000000 in
theorem st5_high (c : Int) (w : World) (h0 : 57 < c) (h1 : (c == 69) = false) (h2 : (c == 101) = false) (h3 : (c == 43) = false) (h4 : (c == 45) = false) (h5 : (c == 46) = false) : Calls Try.prog 24 #[.int .i64 5, .int .u8 c, .bool false] w fun e w' => e = .returned (.int .i64 9) ∧ w' = w := by
  go_enter Try.func24, Try.ntmps24
  go_wp2
  go_ret
  exact ⟨rfl, rfl⟩
set_option maxHeartbeats 1000000 in
theorem st5_end (w : World) : Calls Try.prog 24 #[.int .i64 5, .int .u8 0, .bool true] w fun e w' => e = .returned (.int .i64 9) ∧ w' = w := by
  go_enter Try.func24, Try.ntmps24
  go_wp2
  go_ret
  exact ⟨rfl, rfl⟩
set_option maxHeartbeats 1000000 in
theorem st6_43 (w : World)  : Calls Try.prog 24 #[.int .i64 6, .int .u8 43, .bool false] w fun e w' => e = .returned (.int .i64 7) ∧ w' = w := by
  go_enter Try.func24, Try.ntmps24
  go_wp2
  go_ret
  exact ⟨rfl, rfl⟩
set_option maxHeartbeats 1000000 in
theorem st6_45 (w : World)  : Calls Try.prog 24 #[.int .i64 6, .int .u8 45, .bool false] w fun e w' => e = .returned (.int .i64 7) ∧ w' = w := by
  go_enter Try.func24, Try.ntmps24
  go_wp2
  go_ret
  exact ⟨rfl, rfl⟩
set_option maxHeartbeats 1000000 in
theorem st6_46 (w : World)  : Calls Try.prog 24 #[.int .i64 6, .int .u8 46, .bool false] w fun e w' => e = .returned (.int .i64 10) ∧ w' = w := by
  go_enter Try.func24, Try.ntmps24
  go_wp2
  go_ret
  exact ⟨rfl, rfl⟩
set_option maxHeartbeats 1000000 in
theorem st6_48 (w : World)  : Calls Try.prog 24 #[.int .i64 6, .int .u8 48, .bool false] w fun e w' => e = .returned (.int .i64 8) ∧ w' = w := by
  go_enter Try.func24, Try.ntmps24
  go_wp2
  go_ret
  exact ⟨rfl, rfl⟩
set_option maxHeartbeats 1000000 in
theorem st6_69 (w : World)  : Calls Try.prog 24 #[.int .i64 6, .int .u8 69, .bool false] w fun e w' => e = .returned (.int .i64 10) ∧ w' = w := by
  go_enter Try.func24, Try.ntmps24
  go_wp2
  go_ret
  exact ⟨rfl, rfl⟩
set_option maxHeartbeats 1000000 in
theorem st6_101 (w : World)  : Calls Try.prog 24 #[.int .i64 6, .int .u8 101, .bool false] w fun e w' => e = .returned (.int .i64 10) ∧ w' = w := by
  go_enter Try.func24, Try.ntmps24
  go_wp2
  go_ret
  exact ⟨rfl, rfl⟩
set_option maxHeartbeats 1000000 in
theorem st6_dig (c : Int) (w : World) (h0 : 49 ≤ c) (h1 : c ≤ 57) (h2 : (c == 43) = false) (h3 : (c == 45) = false) (h4 : (c == 46) = false) (h5 : (c == 101) = false) (h6 : (c == 69) = false) : Calls Try.prog 24 #[.int .i64 6, .int .u8 c, .bool false] w fun e w' => e = .returned (.int .i64 8) ∧ w' = w := by
  go_enter Try.func24, Try.ntmps24
  go_wp2
  go_ret
  exact ⟨rfl, rfl⟩
set_option maxHeartbeats 1000000 in
theorem st6_low (c : Int) (w : World) (h0 : c < 48) (h1 : (c == 43) = false) (h2 : (c == 45) = false) (h3 : (c == 46) = false) (h4 : (c == 101) = false) (h5 : (c == 69) = false) : Calls Try.prog 24 #[.int .i64 6, .int .u8 c, .bool false] w fun e w' => e = .returned (.int .i64 10) ∧ w' = w := by
  go_enter Try.func24, Try.ntmps24
  go_wp2
  go_ret
  exact ⟨rfl, rfl⟩
set_option maxHeartbeats 1000000 in
theorem st6_high (c : Int) (w : World) (h0 : 57 < c) (h1 : (c == 69) = false) (h2 : (c == 101) = false) (h3 : (c == 43) = false) (h4 : (c == 45) = false) (h5 : (c == 46) = false) : Calls Try.prog 24 #[.int .i64 6, .int .u8 c, .bool false] w fun e w' => e = .returned (.int .i64 10) ∧ w' = w := by
  go_enter Try.func24, Try.ntmps24
  go_wp2
  go_ret
  exact ⟨rfl, rfl⟩
set_option maxHeartbeats 1000000 in
theorem st6_end (w : World) : Calls Try.prog 24 #[.int .i64 6, .int .u8 0, .bool true] w fun e w' => e = .returned (.int .i64 10) ∧ w' = w := by
  go_enter Try.func24, Try.ntmps24
  go_wp2
  go_ret
  exact ⟨rfl, rfl⟩
set_option maxHeartbeats 1000000 in
theorem st7_43 (w : World)  : Calls Try.prog 24 #[.int .i64 7, .int .u8 43, .bool false] w fun e w' => e = .returned (.int .i64 10) ∧ w' = w := by
  go_enter Try.func24, Try.ntmps24
  go_wp2
  go_ret
  exact ⟨rfl, rfl⟩
set_option maxHeartbeats 1000000 in
theorem st7_45 (w : World)  : Calls Try.prog 24 #[.int .i64 7, .int .u8 45, .bool false] w fun e w' => e = .returned (.int .i64 10) ∧ w' = w := by
  go_enter Try.func24, Try.ntmps24
  go_wp2
  go_ret
  exact ⟨rfl, rfl⟩
set_option maxHeartbeats 1000000 in
theorem st7_46 (w : World)  : Calls Try.prog 24 #[.int .i64 7, .int .u8 46, .bool false] w fun e w' => e = .returned (.int .i64 10) ∧ w' = w := by
  go_enter Try.func24, Try.ntmps24
  go_wp2
  go_ret
  exact ⟨rfl, rfl⟩
set_option maxHeartbeats 1000000 in
theorem st7_48 (w : World)  : Calls Try.prog 24 #[.int .i64 7, .int .u8 48, .bool false] w fun e w' => e = .returned (.int .i64 8) ∧ w' = w := by
  go_enter Try.func24, Try.ntmps24
  go_wp2
  go_ret
  exact ⟨rfl, rfl⟩
set_option maxHeartbeats 1000000 in
theorem st7_69 (w : World)  : Calls Try.prog 24 #[.int .i64 7, .int .u8 69, .bool false] w fun e w' => e = .returned (.int .i64 10) ∧ w' = w := by
  go_enter Try.func24, Try.ntmps24
  go_wp2
  go_ret
  exact ⟨rfl, rfl⟩
set_option maxHeartbeats 1000000 in
theorem st7_101 (w : World)  : Calls Try.prog 24 #[.int .i64 7, .int .u8 101, .bool false] w fun e w' => e = .returned (.int .i64 10) ∧ w' = w := by
  go_enter Try.func24, Try.ntmps24
  go_wp2
  go_ret
  exact ⟨rfl, rfl⟩
set_option maxHeartbeats 1000000 in
theorem st7_dig (c : Int) (w : World) (h0 : 49 ≤ c) (h1 : c ≤ 57) (h2 : (c == 43) = false) (h3 : (c == 45) = false) (h4 : (c == 46) = false) (h5 : (c == 101) = false) (h6 : (c == 69) = false) : Calls Try.prog 24 #[.int .i64 7, .int .u8 c, .bool false] w fun e w' => e = .returned (.int .i64 8) ∧ w' = w := by
  go_enter Try.func24, Try.ntmps24
  go_wp2
  go_ret
  exact ⟨rfl, rfl⟩
set_option maxHeartbeats 1000000 in
theorem st7_low (c : Int) (w : World) (h0 : c < 48) (h1 : (c == 43) = false) (h2 : (c == 45) = false) (h3 : (c == 46) = false) (h4 : (c == 101) = false) (h5 : (c == 69) = false) : Calls Try.prog 24 #[.int .i64 7, .int .u8 c, .bool false] w fun e w' => e = .returned (.int .i64 10) ∧ w' = w := by
  go_enter Try.func24, Try.ntmps24
  go_wp2
  go_ret
  exact ⟨rfl, rfl⟩
set_option maxHeartbeats 1000000 in
theorem st7_high (c : Int) (w : World) (h0 : 57 < c) (h1 : (c == 69) = false) (h2 : (c == 101) = false) (h3 : (c == 43) = false) (h4 : (c == 45) = false) (h5 : (c == 46) = false) : Calls Try.prog 24 #[.int .i64 7, .int .u8 c, .bool false] w fun e w' => e = .returned (.int .i64 10) ∧ w' = w := by
  go_enter Try.func24, Try.ntmps24
  go_wp2
  go_ret
  exact ⟨rfl, rfl⟩
set_option maxHeartbeats 1000000 in
theorem st7_end (w : World) : Calls Try.prog 24 #[.int .i64 7, .int .u8 0, .bool true] w fun e w' => e = .returned (.int .i64 10) ∧ w' = w := by
  go_enter Try.func24, Try.ntmps24
  go_wp2
  go_ret
  exact ⟨rfl, rfl⟩
set_option maxHeartbeats 1000000 in
theorem st8_43 (w : World)  : Calls Try.prog 24 #[.int .i64 8, .int .u8 43, .bool false] w fun e w' => e = .returned (.int .i64 9) ∧ w' = w := by
  go_enter Try.func24, Try.ntmps24
  go_wp2
  go_ret
  exact ⟨rfl, rfl⟩
set_option maxHeartbeats 1000000 in
theorem st8_45 (w : World)  : Calls Try.prog 24 #[.int .i64 8, .int .u8 45, .bool false] w fun e w' => e = .returned (.int .i64 9) ∧ w' = w := by
  go_enter Try.func24, Try.ntmps24
  go_wp2
  go_ret
  exact ⟨rfl, rfl⟩
set_option maxHeartbeats 1000000 in
theorem st8_46 (w : World)  : Calls Try.prog 24 #[.int .i64 8, .int .u8 46, .bool false] w fun e w' => e = .returned (.int .i64 9) ∧ w' = w := by
  go_enter Try.func24, Try.ntmps24
  go_wp2
  go_ret
  exact ⟨rfl, rfl⟩
set_option maxHeartbeats 1000000 in
theorem st8_48 (w : World)  : Calls Try.prog 24 #[.int .i64 8, .int .u8 48, .bool false] w fun e w' => e = .returned (.int .i64 8) ∧ w' = w := by
  go_enter Try.func24, Try.ntmps24
  go_wp2
  go_ret
  exact ⟨rfl, rfl⟩
set_option maxHeartbeats 1000000 in
theorem st8_69 (w : World)  : Calls Try.prog 24 #[.int .i64 8, .int .u8 69, .bool false] w fun e w' => e = .returned (.int .i64 9) ∧ w' = w := by
  go_enter Try.func24, Try.ntmps24
  go_wp2
  go_ret
  exact ⟨rfl, rfl⟩
set_option maxHeartbeats 1000000 in
theorem st8_101 (w : World)  : Calls Try.prog 24 #[.int .i64 8, .int .u8 101, .bool false] w fun e w' => e = .returned (.int .i64 9) ∧ w' = w := by
  go_enter Try.func24, Try.ntmps24
  go_wp2
  go_ret
  exact ⟨rfl, rfl⟩
set_option maxHeartbeats 1000000 in
theorem st8_dig (c : Int) (w : World) (h0 : 49 ≤ c) (h1 : c ≤ 57) (h2 : (c == 43) = false) (h3 : (c == 45) = false) (h4 : (c == 46) = false) (h5 : (c == 101) = false) (h6 : (c == 69) = false) : Calls Try.prog 24 #[.int .i64 8, .int .u8 c, .bool false] w fun e w' => e = .returned (.int .i64 8) ∧ w' = w := by
  go_enter Try.func24, Try.ntmps24
  go_wp2
  go_ret
  exact ⟨rfl, rfl⟩
set_option maxHeartbeats 1000000 in
theorem st8_low (c : Int) (w : World) (h0 : c < 48) (h1 : (c == 43) = false) (h2 : (c == 45) = false) (h3 : (c == 46) = false) (h4 : (c == 101) = false) (h5 : (c == 69) = false) : Calls Try.prog 24 #[.int .i64 8, .int .u8 c, .bool false] w fun e w' => e = .returned (.int .i64 9) ∧ w' = w := by
  go_enter Try.func24, Try.ntmps24
  go_wp2
  go_ret
  exact ⟨rfl, rfl⟩
set_option maxHeartbeats 1000000 in
theorem st8_high (c : Int) (w : World) (h0 : 57 < c) (h1 : (c == 69) = false) (h2 : (c == 101) = false) (h3 : (c == 43) = false) (h4 : (c == 45) = false) (h5 : (c == 46) = false) : Calls Try.prog 24 #[.int .i64 8, .int .u8 c, .bool false] w fun e w' => e = .returned (.int .i64 9) ∧ w' = w := by
  go_enter Try.func24, Try.ntmps24
  go_wp2
  go_ret
  exact ⟨rfl, rfl⟩
set_option maxHeartbeats 1000000 in
theorem st8_end (w : World) : Calls Try.prog 24 #[.int .i64 8, .int .u8 0, .bool true] w fun e w' => e = .returned (.int .i64 9) ∧ w' = w := by
  go_enter Try.func24, Try.ntmps24
  go_wp2
  go_ret
  exact ⟨rfl, rfl⟩
end Go.Proofs.Qxb6602886a
