import Derived.Test.Qxb6602886aRows
import Derived.Test.Qxb6602886aHexA
import Derived.Test.Qxb6602886aHexL
import Derived.Test.Qxb6602886aClone
import Derived.Test.Qxb6602886aDigit
import Derived.WalkKit
import Derived.ProofKit
import Derived.OpenShut
import Derived.ShutString
import Derived.ChangeOld
import Derived.Below
namespace Go.Proofs.Qxb6602886a.fnHex4MatchesRightToLeftModel
open Go.ChangeShapes Go.WideShapes Go.ChangeAt Go.RowKit
open Go.ChangeMaps (open_string shut_string)
set_option linter.unusedVariables false

theorem own : ownKnob Try.prog.godebug = none := by kernel_rfl
theorem laidOut : laidOutB Try.prog = true := by kernel_rfl

/-- WHAT THE WALK IS TOLD OF A SLICE OF INTEGERS THAT CAME IN: it is nil; or it leads to a row of 'cap' cells, the numbers 'zs' (the first 'len' are its elements, the rest its spare room), each fitting its kind. -/
def IsRow (k : IntKind) (w : World) (a : Option Addr) (len cap : Nat) (zs : List Int) : Prop :=
  (a = none ∧ len = 0 ∧ cap = 0 ∧ zs = []) ∨
  ∃ x, a = some x ∧ len ≤ cap ∧ cap ≤ maxLen ∧ zs.length = cap ∧ (∀ i, i < zs.length → w.cell? (x.add i) = some (.int k (zs.getD i 0))) ∧ ∀ n ∈ zs, (Lit.int k n).wf = true

theorem bytes_yes (a : Option Addr) (len cap : Nat) (w : World) (h : len ≤ 1048576) : Calls Try.prog 9 #[.slice a len cap] w fun e w' => e = .returned (.bool true) ∧ w' = w := by
  go_enter Try.func9, Try.ntmps9
  go_wp2
  go_ret
  exact ⟨rfl, rfl⟩
theorem bytes_no (a : Option Addr) (len cap : Nat) (w : World) (h : 1048576 < len) (_h' : len ≤ maxLen) : Calls Try.prog 9 #[.slice a len cap] w fun e w' => e = .returned (.bool false) ∧ w' = w := by
  go_enter Try.func9, Try.ntmps9
  go_wp2
  go_ret
  exact ⟨rfl, rfl⟩

theorem hex4_nil (w : World) : Calls Try.prog 12 #[.slice none 0 0] w fun e w' => e = .returned (.tuple #[.int .i32 0, .bool true]) ∧ w' = w := by
  go_enter Try.func12, Try.ntmps12
  go_wp2
  refine wp_loop_rounds 1 ?_
  rw [rounds_succ]
  go_wp2
  go_ret2
  exact ⟨rfl, rfl⟩

theorem walk_big (a : Option Addr) (len cap : Nat) (w : World) (h : 65536 < len) (h' : len ≤ maxLen) :
    Calls Try.prog 3 #[.slice a len cap] w fun e w' => e = .returned (.bool true) ∧ Below w.heap.size w w' := by
  by_cases hb : len ≤ 1048576
  · have H : Hid (Calls Try.prog 9 #[.slice a len cap] w fun e w' => e = .returned (.bool true) ∧ w' = w) := bytes_yes a len cap w hb
    go_enter Try.func3, Try.ntmps3
    go_wp2_with (go_at_call 9; refine H.out.mono ?_; rintro e w' ⟨rfl, rfl⟩)
    go_ret
    exact ⟨rfl, Below.refl _ _⟩
  · have H : Hid (Calls Try.prog 9 #[.slice a len cap] w fun e w' => e = .returned (.bool false) ∧ w' = w) := bytes_no a len cap w (by omega) h'
    go_enter Try.func3, Try.ntmps3
    go_wp2_with (go_at_call 9; refine H.out.mono ?_; rintro e w' ⟨rfl, rfl⟩)
    go_ret
    exact ⟨rfl, Below.refl _ _⟩

theorem walk_nil (w : World) : Calls Try.prog 3 #[.slice none 0 0] w fun e w' => e = .returned (.bool true) ∧ Below w.heap.size w w' := by
  have H : Hid (Calls Try.prog 9 #[.slice none 0 0] w fun e w' => e = .returned (.bool true) ∧ w' = w) := bytes_yes none 0 0 w (by decide)
  have H1 : Hid (Calls Try.prog 10 #[.slice none 0 0] w fun e w' => e = .returned (.slice none 0 0) ∧ w' = w) := clone_nil w
  have H2 : Hid (Calls Try.prog 12 #[.slice none 0 0] w fun e w' => e = .returned (.tuple #[.int .i32 0, .bool true]) ∧ w' = w) := hex4_nil w
  go_enter Try.func3, Try.ntmps3
  go_wp2_with (first | (go_at_call 9; refine H.out.mono ?_; rintro e w' ⟨rfl, rfl⟩) | (go_at_call 10; refine H1.out.mono ?_; rintro e w' ⟨rfl, rfl⟩))
  refine wp_loop_rounds 1 ?_
  rw [rounds_succ]
  go_wp2_with (go_at_call 12; refine H2.out.mono ?_; rintro e w' ⟨rfl, rfl⟩)
  go_ret
  exact ⟨rfl, Below.refl _ _⟩

set_option maxHeartbeats 2000000 in
theorem walk_some (x : Addr) (len cap : Nat) (ys : List Int) (w : World) (hl : len ≤ 65536) (hy : ys.length = len) (hr : ∀ k, 0 ≤ ys.getD k 0 ∧ ys.getD k 0 ≤ 255)
    (hcl : Calls Try.prog 10 #[.slice (some x) len cap] w fun e w' => e = .returned (.slice (some ⟨w.heap.size, 0, none⟩) len len) ∧ Copied w w' ys) :
    Calls Try.prog 3 #[.slice (some x) len cap] w fun e w' => e = .returned (.bool true) ∧ Below w.heap.size w w' := by
  have H : Hid (Calls Try.prog 9 #[.slice (some x) len cap] w fun e w' => e = .returned (.bool true) ∧ w = w') := (bytes_yes (some x) len cap w (by omega)).mono fun _ _ h => ⟨h.1, h.2.symm⟩
  have H1 : Hid (Calls Try.prog 10 #[.slice (some x) len cap] w fun e w' => e = .returned (.slice (some ⟨w.heap.size, 0, none⟩) len len) ∧ Copied w w' ys) := hcl
  have HY : Hid (ys.length = len) := hy
  have HR : Hid (∀ k, 0 ≤ ys.getD k 0 ∧ ys.getD k 0 ≤ 255) := hr
  clear hcl hy hr
  go_enter Try.func3, Try.ntmps3
  go_wp2_with (go_at_call 9; refine H.out.mono ?_; rintro e w' ⟨rfl, rfl⟩)
  refine H1.out.mono ?_
  rintro e w1 ⟨rfl, hC⟩
  have HC : Hid (Copied w w1 ys) := hC
  have HZ : Hid (Calls Try.prog 12 #[.slice (some ⟨w.heap.size, 0, none⟩) len len] w1 fun e w' => e = hexEnd (hexFrom 0 ys) ∧ w1 = w') :=
    (zzhex4_any w.heap.size 0 len len ys w1 (by omega) HY.out (fun k hk => by rw [Nat.zero_add]; exact hC.cell k (by rw [HY.out]; exact hk)) HR.out).mono fun _ _ h => ⟨h.1, h.2.symm⟩
  clear hC H H1
  go_wp2
  go_loop [3, 4, 5, 6] (fun ok want weight i => ok = .bool true ∧ ∃ k : Nat, k ≤ len ∧ i = .int .i64 ((k : Int) - 1) ∧ ∃ v : Int, Hid (hexS (ys.drop k) = some v) ∧ want = .int .u32 (v % 4294967296) ∧ weight = .int .u32 ((16 : Int) ^ (len - k) % 4294967296)) (fun _ _ _ i => (intOf i + 1).toNat)
  case atStart =>
    refine ⟨rfl, len, Nat.le_refl _, rfl, 0, ?_, rfl, ?_⟩
    · show hexS _ = some 0
      rw [List.drop_of_length_le (by rw [HY.out]; exact Nat.le_refl _)]; rfl
    · rw [Nat.sub_self]; rfl
  case round =>
    obtain ⟨rfl, k, hk, rfl, v, HS, rfl, rfl⟩ := hrel
    cases k with
    | zero =>
      have HF : Hid (hexFrom 0 ys = some (wrap32 v)) := by rw [hexFrom_zero]; rw [show ys = ys.drop 0 by simp, HS.out]; rfl
      rw [HF.out] at HZ
      have HZ2 : Hid (Calls Try.prog 12 #[.slice (some ⟨w.heap.size, 0, none⟩) len len] w1 fun e w' => e = .returned (.tuple #[.int .i32 (wrap32 v), .bool true]) ∧ w1 = w') := HZ
      clear HZ
      rw [show ((0 : Nat) : Int) - 1 = -1 by omega]
      go_wp2_with (go_at_call 12; refine HZ2.out.mono ?_; rintro e w' ⟨rfl, rfl⟩)
      go_ret
      exact ⟨by rw [wrap32_emod, beq_self_eq_true]; rfl, HC.out.2⟩
    | succ m =>
      rw [show ((m + 1 : Nat) : Int) - 1 = (m : Int) by omega]
      have hmz : m < ys.length := by rw [HY.out]; omega
      have hcell : w1.cell? ⟨w.heap.size, m, none⟩ = some (.int .u8 (ys.getD m 0)) := HC.out.cell m hmz
      have hgd : ys.getD m 0 = ys[m] := by simp [List.getD, hmz]
      obtain ⟨c, hcc⟩ : ∃ c, ys.getD m 0 = c := ⟨_, rfl⟩
      have HCC : Hid (ys[m] = c) := by rw [← hgd]; exact hcc
      have HD : Hid (Calls Try.prog 11 #[.int .u8 c] w1 fun e w' => e = digEnd (hexv c) ∧ w1 = w') := (digit_any c w1).mono fun _ _ h => ⟨h.1, h.2.symm⟩
      rw [hcc] at hcell
      clear hcc hgd
      cases hv : hexv c with
      | none =>
        have HF : Hid (hexFrom 0 ys = none) := by
          have : hexS ys = none := hexS_bad ys m hmz (by rw [HCC.out]; exact hv)
          rw [hexFrom_zero, this]; rfl
        rw [HF.out] at HZ
        rw [hv] at HD
        have HZ2 : Hid (Calls Try.prog 12 #[.slice (some ⟨w.heap.size, 0, none⟩) len len] w1 fun e w' => e = .returned (.tuple #[.int .i32 0, .bool false]) ∧ w1 = w') := HZ
        have HD2 : Hid (Calls Try.prog 11 #[.int .u8 c] w1 fun e w' => e = .returned (.tuple #[.int .u32 0, .bool false]) ∧ w1 = w') := HD
        clear HZ HD hv HCC hmz HF
        go_wp2_with (first | (go_at_call 11; refine HD2.out.mono ?_; rintro e w' ⟨rfl, rfl⟩) | (go_at_call 12; refine HZ2.out.mono ?_; rintro e w' ⟨rfl, rfl⟩))
        go_ret
        exact ⟨rfl, HC.out.2⟩
      | some d =>
        have hd := hexv_rng hv
        have HSS : Hid (hexS (ys.drop m) = some (d * (16 : Int) ^ (len - (m + 1)) + v)) := by
          have := hexS_drop ys m hmz d v (by rw [HCC.out]; exact hv) HS.out
          rw [HY.out] at this; exact this
        rw [hv] at HD
        have HD2 : Hid (Calls Try.prog 11 #[.int .u8 c] w1 fun e w' => e = .returned (.tuple #[.int .u32 d, .bool true]) ∧ w1 = w') := HD
        clear HD hv HCC hmz
        go_wp2_with (go_at_call 11; refine HD2.out.mono ?_; rintro e w' ⟨rfl, rfl⟩)
        go_round
        case rel =>
          refine ⟨rfl, m, by omega, rfl, _, HSS, ?_, ?_⟩
          · rw [step_want]
          · rw [step_weight, show len - (m + 1) + 1 = len - m by omega]
        case measure => simp [intOf]

theorem getD_rng {zs : List Int} (h : ∀ n ∈ zs, (Lit.int .u8 n).wf = true) (k : Nat) : 0 ≤ zs.getD k 0 ∧ zs.getD k 0 ≤ 255 := by
  by_cases hk : k < zs.length
  · have : zs.getD k 0 = zs[k] := by simp [List.getD, hk]
    rw [this]; exact bounds_u8 (h _ (List.getElem_mem hk))
  · have : zs.getD k 0 = 0 := by simp [List.getD, List.getElem?_eq_none (Nat.le_of_not_lt hk)]
    rw [this]; omega

theorem walk (a0 : Option Addr) (len0 cap0 : Nat) (z0 : List Int) (w : World) (w0 : IsRow .u8 w a0 len0 cap0 z0) :
    Calls Try.prog 3 #[.slice a0 len0 cap0] w fun e w' => e = .returned (.bool true) ∧ Below w.heap.size w w' := by
  rcases w0 with ⟨rfl, rfl, rfl, rfl⟩ | ⟨x, rfl, hl, hm, hz, hcell, hwz⟩
  · exact walk_nil w
  by_cases hbig : 65536 < len0
  · exact walk_big _ _ _ w hbig (by omega)
  by_cases h0 : len0 = 0
  · subst h0
    exact walk_some x 0 cap0 [] w (by omega) rfl (fun k => by simp) (clone_empty x cap0 w)
  obtain ⟨b, off, spot⟩ := x
  have hspot : spot = none := by simpa [Addr.add] using World.cell?_spot (hcell 0 (by omega))
  subst hspot
  have hcell' : ∀ j, j < len0 → w.cell? ⟨b, off + j, none⟩ = some (.int .u8 ((z0.take len0).getD j 0)) := fun j hj => by
    have := hcell j (by omega)
    rw [add_plain] at this
    rw [this]
    simp [List.getD, hj]
  have hw2 : ∀ n ∈ z0.take len0, (Lit.int .u8 n).wf = true := fun n hn => hwz n (List.mem_of_mem_take hn)
  have hy : (z0.take len0).length = len0 := by simp; omega
  exact walk_some ⟨b, off, none⟩ len0 cap0 (z0.take len0) w (by omega) hy (getD_rng hw2) (clone_some b off len0 cap0 (z0.take len0) w hy (by omega) hcell')


/-! ### THE ROW's STEP: WRITTEN OUT: LEAVE IT -/
set_option maxRecDepth 100000 in
theorem lifted (os : Os) (started : os.Started) (H : Type) (enc : TypeId × Value → H) :
    ReturnsInHanded {} Try.checked os 3 .any (Rows.fnHex4MatchesRightToLeftModelSpec.pre6 enc Try.prog Try.f3 Rows.fnHex4MatchesRightToLeftModelRow.domain false) (Rows.fnHex4MatchesRightToLeftModelSpec.post enc Try.prog Try.f3 false true false false) := by
  refine returnsInHanded_of_change (C := Try.checked) own started (by kernel_rfl) Try.func3
    (ChangeSpec.witness6 (enc := enc) (C := Try.checked) false ⟨#[], #[.slice none 0 0], []⟩ 8 (by kernel_rfl) (by kernel_rfl) (by kernel_rfl) (by kernel_rfl)) ?_
  intro W base args ds gs before hval0 hW hcnd _
  have hval : ∀ (j : Nat) t v, Try.f3.params[j]? = some t → args[j]? = some v → Value.okWide Try.prog W .any base t v := hval0
  have hW' := hW
  obtain ⟨p, q, hA0, hV, rfl, hfz, hnd⟩ := hW
  have hA : DataW.TrodAll enc Try.prog W 0 (fun _ => true) true Try.f3.params.toList args.toList ds p := hA0
  rw [Try.params3] at hA hval
  obtain ⟨v0, vs0, d0, ds0, p0, q0, hargs, rfl, rfl, h0, r0⟩ := trodAll_cons hA
  obtain ⟨rfl, rfl, rfl⟩ := trodAll_nil r0
  obtain rfl : args = #[v0] := by cases args; simp_all
  obtain ⟨rfl, rfl⟩ := trodVars_none hV
  obtain ⟨a0, len0, cap0, rfl⟩ := okWide_slice Try.underlying22 (hval 0 22 v0 rfl rfl)
  have k0 := h0
  have lt0 : ∀ x ∈ p0, x.block < W.heap.size := by obtain ⟨m, hm⟩ := k0; exact DataW.trod_lt m _ _ _ hm
  obtain ⟨z0, w0⟩ : ∃ zs, IsRow .u8 W a0 len0 cap0 zs := by
    obtain ⟨fuel, hf⟩ := h0
    rcases open_ints Try.underlying22 Try.underlying5 (by kernel_rfl) hf with ⟨hcs, _⟩ | ⟨x, l, c, zs, hcs, _, hl, hm, hz, _, hcell, hwz⟩
    · simp [Value.cells] at hcs
      obtain ⟨rfl, rfl, rfl⟩ := hcs
      exact ⟨[], .inl ⟨rfl, rfl, rfl, rfl⟩⟩
    · simp [Value.cells] at hcs
      obtain ⟨rfl, rfl, rfl⟩ := hcs
      exact ⟨zs, .inr ⟨_, rfl, hl, hm, by simpa using hz, hcell, hwz⟩⟩
  clear hA0 hval0
  refine (walk a0 len0 cap0 z0 W w0).mono fun e W' ⟨he, bel⟩ => ?_
  subst he
  exact ⟨_, rfl, _, _, _, [], _, [], hW', trodAll_mk1 (shut_bool Try.underlying4 _), (trodAll_cons_mk (Below.trod laidOut (by kernel_rfl) (of_decide_eq_true (by kernel_rfl)) k0 bel lt0) trodAll_mk0), rfl, bel.frame _, fun h => by cases h⟩

theorem over : Rows.fnHex4MatchesRightToLeftModelRow.holds Try.pinned (OpenSpec.ofChange Rows.fnHex4MatchesRightToLeftModelSpec) :=
  OpenClaim.holds_of_wide 3 Try.f3 rfl rfl rfl rfl rfl rfl rfl ⟨rfl, rfl, rfl, rfl, rfl⟩ rfl rfl rfl rfl rfl (by kernel_rfl) Try.func3 (by kernel_rfl)
    (of_decide_eq_true (by kernel_rfl)) (by unfold Func.isWrapper; first | (rw [if_pos (by decide +kernel)]; kernel_rfl) | (rw [if_neg (by decide +kernel)]; exact ⟨rfl, rfl⟩))
    (fun os started H enc _ => lifted os started H enc)

/-- ████ THE STATEMENT ████ -/
theorem proved : Rows.FnHex4MatchesRightToLeftModelSaid := over
end Go.Proofs.Qxb6602886a.fnHex4MatchesRightToLeftModel
