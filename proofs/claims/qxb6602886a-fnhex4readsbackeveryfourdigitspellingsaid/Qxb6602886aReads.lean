import Derived.Test.Qxb6602886aRows
import Derived.Test.Qxb6602886aHexA
import Derived.WalkKit
import Derived.ProofKit
import Derived.OpenShut
import Derived.ShutString
namespace Go.Proofs.Qxb6602886a.fnHex4ReadsBackEveryFourDigitSpelling
open Go.ChangeShapes Go.WideShapes Go.ChangeAt Go.RowKit
open Go.ChangeMaps (open_string shut_string)
set_option linter.unusedVariables false      -- a walk need not use every 'w<i>' (that an integer argument fits its kind)

theorem own : ownKnob Try.prog.godebug = none := by kernel_rfl

/-! ### STEP 1: THE WALK: the Go text returns true. 'Grown w w'': the world has at most new blocks (Derived/RowKit3.lean). Part the cases AHEAD of 'go_enter' where a test parts the walk; take each callee by a contract of your own. -/
theorem mk4 : ∀ w : World, (Instr.makeSlice 22 (.int .i64 4) (.int .i64 4)).run Try.prog w = .ok (.slice (some ⟨w.heap.size, 0, none⟩) 4 4) (w.alloc (.cells #[.int .u8 0, .int .u8 0, .int .u8 0, .int .u8 0] 5)) := fun _ => by kernel_rfl

/-- A digit's spelling is read back, whatever its case. -/
theorem hexv_sp (d : Int) (u : Bool) (h0 : 0 ≤ d) (h1 : d ≤ 15) : hexv (hexSp d u) = some d := by
  unfold hexSp
  by_cases h : d < 10
  · rw [if_pos h, hexv_dec (by omega) (by omega)]; congr 1; omega
  · rw [if_neg h]
    cases u
    · rw [if_neg (by decide), hexv_low (by omega) (by omega)]; congr 1; omega
    · rw [if_pos rfl, hexv_upp (by omega) (by omega)]; congr 1; omega
theorem hexSp_rng (d : Int) (u : Bool) (h0 : 0 ≤ d) (h1 : d ≤ 15) : 0 ≤ hexSp d u ∧ hexSp d u ≤ 255 := by
  unfold hexSp; split <;> (try split) <;> omega

theorem wrap32_id {n : Int} (h0 : 0 ≤ n) (h1 : n ≤ 65535) : wrap32 n = n := by unfold wrap32; omega

/-- THE PLAIN LAW: four spelled digits give the number back. -/
theorem four (x d0 d1 d2 d3 : Int) (u0 u1 u2 u3 : Bool) (h0 : 0 ≤ x) (h1 : x ≤ 65535) (e0 : d0 = x / 4096 % 16) (e1 : d1 = x / 256 % 16) (e2 : d2 = x / 16 % 16) (e3 : d3 = x % 16) :
    hexFrom 0 [hexSp d0 u0, hexSp d1 u1, hexSp d2 u2, hexSp d3 u3] = some x := by
  simp only [hexFrom, hexv_sp d0 u0 (by omega) (by omega), hexv_sp d1 u1 (by omega) (by omega), hexv_sp d2 u2 (by omega) (by omega), hexv_sp d3 u3 (by omega) (by omega)]
  rw [wrap32_id (n := 0 * 16 + d0) (by omega) (by omega), wrap32_id (n := (0 * 16 + d0) * 16 + d1) (by omega) (by omega), wrap32_id (n := ((0 * 16 + d0) * 16 + d1) * 16 + d2) (by omega) (by omega), wrap32_id (by omega) (by omega)]
  congr 1; omega

theorem zz4 (c0 c1 c2 c3 x : Int) (w : World) (h0 : 0 ≤ c0 ∧ c0 ≤ 255) (h1 : 0 ≤ c1 ∧ c1 ≤ 255) (h2 : 0 ≤ c2 ∧ c2 ≤ 255) (h3 : 0 ≤ c3 ∧ c3 ≤ 255) (hx : hexFrom 0 [c0, c1, c2, c3] = some x) :
    Calls Try.prog 12 #[.slice (some ⟨w.heap.size, 0, none⟩) 4 4] (w.alloc (.cells #[.int .u8 c0, .int .u8 c1, .int .u8 c2, .int .u8 c3] 5)) fun e w' =>
      e = .returned (.tuple #[.int .i32 x, .bool true]) ∧ w' = w.alloc (.cells #[.int .u8 c0, .int .u8 c1, .int .u8 c2, .int .u8 c3] 5) := by
  refine (zzhex4_any w.heap.size 0 4 4 [c0, c1, c2, c3] _ (by decide) rfl ?_ ?_).mono ?_
  · intro k hk
    match k, hk with
    | 0, _ => simp
    | 1, _ => simp
    | 2, _ => simp
    | 3, _ => simp
  · intro k
    match k with
    | 0 => exact h0
    | 1 => exact h1
    | 2 => exact h2
    | 3 => exact h3
    | k + 4 => simp
  · rintro e w' ⟨rfl, rfl⟩
    rw [hx]; exact ⟨rfl, rfl⟩

set_option maxHeartbeats 1000000 in
theorem walk_in (a0 : Int) (a1 : Int) (w0 : 0 ≤ a0 ∧ a0 ≤ 65535) (w1 : 0 ≤ a1 ∧ a1 ≤ 255) (w : World) :
    Calls Try.prog 4 #[.int .u16 a0, .int .u8 a1] w fun e w' => e = .returned (.bool true) ∧ Grown w w' := by
  have hmk := mk4
  go_enter Try.func4, Try.ntmps4
  go_wp2
  refine wp_loop_rounds 5 ?_
  rw [rounds_succ]
  go_wp2_with (go_at_call 13; refine (hexSpell_any _ _ _ (by omega) (by omega)).mono ?_; rintro e w' ⟨rfl, rfl⟩)
  rw [rounds_succ]
  go_wp2_with (go_at_call 13; refine (hexSpell_any _ _ _ (by omega) (by omega)).mono ?_; rintro e w' ⟨rfl, rfl⟩)
  rw [rounds_succ]
  go_wp2_with (go_at_call 13; refine (hexSpell_any _ _ _ (by omega) (by omega)).mono ?_; rintro e w' ⟨rfl, rfl⟩)
  rw [rounds_succ]
  go_wp2_with (go_at_call 13; refine (hexSpell_any _ _ _ (by omega) (by omega)).mono ?_; rintro e w' ⟨rfl, rfl⟩)
  rw [rounds_succ]
  go_wp2_with fail
  refine (zz4 _ _ _ _ a0 w (hexSp_rng _ _ (by omega) (by omega)) (hexSp_rng _ _ (by omega) (by omega)) (hexSp_rng _ _ (by omega) (by omega)) (hexSp_rng _ _ (by omega) (by omega)) (four a0 _ _ _ _ _ _ _ _ w0.1 w0.2 rfl rfl rfl rfl)).mono ?_
  rintro e w' ⟨rfl, rfl⟩
  go_wp2
  go_ret
  exact ⟨rfl, by repeat (first | exact Grown.refl _ | apply Grown.drew | apply Grown.alloc)⟩

theorem walk (a0 : Int) (a1 : Int) (w0 : (Lit.int .u16 a0).wf = true) (w1 : (Lit.int .u8 a1).wf = true) (w : World) :
    Calls Try.prog 4 #[.int .u16 a0, .int .u8 a1] w fun e w' => e = .returned (.bool true) ∧ Grown w w' :=
  walk_in a0 a1 (bounds_u16 w0) (bounds_u8 w1) w

/-! ### THE ROW's STEP: WRITTEN OUT: LEAVE IT -/
set_option maxRecDepth 100000 in
theorem lifted (os : Os) (started : os.Started) (H : Type) (enc : TypeId × Value → H) :
    ReturnsInHanded {} Try.checked os 4 .any (Rows.fnHex4ReadsBackEveryFourDigitSpellingSpec.pre6 enc Try.prog Try.f4 Rows.fnHex4ReadsBackEveryFourDigitSpellingRow.domain false) (Rows.fnHex4ReadsBackEveryFourDigitSpellingSpec.post enc Try.prog Try.f4 false true false false) := by
  refine returnsInHanded_of_change (C := Try.checked) own started (by kernel_rfl) Try.func4
    (ChangeSpec.witness6 (enc := enc) (C := Try.checked) false ⟨#[], #[.int .u16 0, .int .u8 0], []⟩ 8 (by kernel_rfl) (by kernel_rfl) (by kernel_rfl) (by kernel_rfl)) ?_
  intro W base args ds gs before hval0 hW hcnd _
  have hval : ∀ (j : Nat) t v, Try.f4.params[j]? = some t → args[j]? = some v → Value.okWide Try.prog W .any base t v := hval0
  have hW' := hW
  obtain ⟨p, q, hA0, hV, rfl, hfz, hnd⟩ := hW
  have hA : DataW.TrodAll enc Try.prog W 0 (fun _ => true) true Try.f4.params.toList args.toList ds p := hA0
  rw [Try.params4] at hA hval
  obtain ⟨v0, vs0, d0, ds0, p0, q0, hargs, rfl, rfl, h0, r0⟩ := trodAll_cons hA
  obtain ⟨v1, vs1, d1, ds1, p1, q1, rfl, rfl, rfl, h1, r1⟩ := trodAll_cons r0
  obtain ⟨rfl, rfl, rfl⟩ := trodAll_nil r1
  obtain rfl : args = #[v0, v1] := by cases args; simp_all
  obtain ⟨rfl, rfl⟩ := trodVars_none hV
  obtain ⟨a0, rfl, rfl, rfl, w0⟩ := open_int Try.underlying30 (hval 0 30 v0 rfl rfl) h0
  obtain ⟨a1, rfl, rfl, rfl, w1⟩ := open_int Try.underlying5 (hval 1 5 v1 rfl rfl) h1
  clear hA0 hval0
  simp only [List.append_nil] at hW'
  refine (walk a0 a1 w0 w1 W).mono fun e W' ⟨he, hg⟩ => ?_
  subst he
  exact ⟨_, rfl, post_of_same (pa := []) (pv := []) hW' (fun _ _ _ => (trodAll_cons_mk (shut_bool Try.underlying4 _) trodAll_mk0)) (fun sp _ => (trodAll_cons_mk (shut_int Try.underlying30 w0) (trodAll_cons_mk (shut_int Try.underlying5 w1) trodAll_mk0))) (fun _ _ => rfl) rfl
    (hg.frame _) hg.2.1 (ok_one (by kernel_rfl) rfl (okWide_bool_mk Try.underlying4 _))⟩

theorem over : Rows.fnHex4ReadsBackEveryFourDigitSpellingRow.holds Try.pinned (OpenSpec.ofChange Rows.fnHex4ReadsBackEveryFourDigitSpellingSpec) :=
  OpenClaim.holds_of_wide 4 Try.f4 rfl rfl rfl rfl rfl rfl rfl ⟨rfl, rfl, rfl, rfl, rfl⟩ rfl rfl rfl rfl rfl (by kernel_rfl) Try.func4 (by kernel_rfl)
    (of_decide_eq_true (by kernel_rfl)) (by unfold Func.isWrapper; first | (rw [if_pos (by decide +kernel)]; kernel_rfl) | (rw [if_neg (by decide +kernel)]; exact ⟨rfl, rfl⟩))
    (fun os started H enc _ => lifted os started H enc)

/-- ████ THE STATEMENT ████ -/
theorem proved : Rows.FnHex4ReadsBackEveryFourDigitSpellingSaid :=
  over
end Go.Proofs.Qxb6602886a.fnHex4ReadsBackEveryFourDigitSpelling
