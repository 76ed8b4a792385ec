import Derived.Test.Qxb6602886aRows
import Derived.Test.Qxb6602886aTimeA
import Derived.Laws.BytesArg
import Derived.WalkKit
import Derived.ProofKit
import Derived.OpenShut
import Derived.ShutString
namespace Go.Proofs.Qxb6602886a.fnIsPlainMicroTimeAcceptsEveryComponentSpelling
open Go.ChangeShapes Go.WideShapes Go.ChangeAt Go.RowKit
open Go.ChangeMaps (open_string shut_string)
set_option linter.unusedVariables false      -- a walk need not use every 'w<i>' (that an integer argument fits its kind)

theorem own : ownKnob Try.prog.godebug = none := by kernel_rfl

/-- The row of the call's own, so far: k cells hold xs; nothing that was there has turned. -/
def St (w wi : World) (k : Nat) (xs : List Value) : Prop :=
  wi.ownsRow w.heap.size 5 1 (.slice (some ⟨w.heap.size, 0, none⟩) k 27) k xs ∧ Below w.heap.size w wi

theorem St.size {w wi : World} {k : Nat} {xs : List Value} (h : St w wi k xs) : w.heap.size ≤ wi.heap.size := h.2.size

theorem pad2_st (w wi : World) (k k' : Nat) (xs : List Value) (v : Int) (h : St w wi k xs) (h0 : 0 ≤ v) (h1 : v ≤ 4294967295) (hk : k' = k + 2) (hf : k' ≤ 27) :
    Calls Try.prog 14 #[.slice (some ⟨w.heap.size, 0, none⟩) k 27, .int .u32 v, .int .i64 2] wi fun e w' =>
      e = .returned (.slice (some ⟨w.heap.size, 0, none⟩) k' 27) ∧ St w w' k' (xs ++ [.int .u8 (48 + v / 10 % 10), .int .u8 (48 + v % 10)]) := by
  subst hk
  refine (pad2_any w.heap.size w.heap.size k 27 xs v wi h0 h1 h.1 hf h.size).mono ?_
  rintro e w' ⟨rfl, ho, hb⟩
  exact ⟨rfl, ho, h.2.trans hb⟩

theorem pad4_st (w wi : World) (k k' : Nat) (xs : List Value) (v : Int) (h : St w wi k xs) (h0 : 0 ≤ v) (h1 : v ≤ 4294967295) (hk : k' = k + 4) (hf : k' ≤ 27) :
    Calls Try.prog 14 #[.slice (some ⟨w.heap.size, 0, none⟩) k 27, .int .u32 v, .int .i64 4] wi fun e w' =>
      e = .returned (.slice (some ⟨w.heap.size, 0, none⟩) k' 27) ∧ St w w' k' (xs ++ [.int .u8 (48 + v / 10 / 10 / 10 % 10), .int .u8 (48 + v / 10 / 10 % 10), .int .u8 (48 + v / 10 % 10), .int .u8 (48 + v % 10)]) := by
  subst hk
  refine (pad4_any w.heap.size w.heap.size k 27 xs v wi h0 h1 h.1 hf h.size).mono ?_
  rintro e w' ⟨rfl, ho, hb⟩
  exact ⟨rfl, ho, h.2.trans hb⟩

theorem pad6_st (w wi : World) (k k' : Nat) (xs : List Value) (v : Int) (h : St w wi k xs) (h0 : 0 ≤ v) (h1 : v ≤ 4294967295) (hk : k' = k + 6) (hf : k' ≤ 27) :
    Calls Try.prog 14 #[.slice (some ⟨w.heap.size, 0, none⟩) k 27, .int .u32 v, .int .i64 6] wi fun e w' =>
      e = .returned (.slice (some ⟨w.heap.size, 0, none⟩) k' 27) ∧ St w w' k' (xs ++ [.int .u8 (48 + v / 10 / 10 / 10 / 10 / 10 % 10), .int .u8 (48 + v / 10 / 10 / 10 / 10 % 10), .int .u8 (48 + v / 10 / 10 / 10 % 10), .int .u8 (48 + v / 10 / 10 % 10), .int .u8 (48 + v / 10 % 10), .int .u8 (48 + v % 10)]) := by
  subst hk
  refine (pad6_any w.heap.size w.heap.size k 27 xs v wi h0 h1 h.1 hf h.size).mono ?_
  rintro e w' ⟨rfl, ho, hb⟩
  exact ⟨rfl, ho, h.2.trans hb⟩

theorem st_app {w wi w' : World} {k : Nat} {xs : List Value} {x : Value} {o : Obj} (h : St w wi k xs) (ho : w'.ownsRow w.heap.size 5 1 (.slice (some ⟨w.heap.size, 0, none⟩) (k + 1) 27) (k + 1) (xs ++ [x])) (hg : (wi.alloc o).grownBy w' (some w.heap.size)) :
    St w w' (k + 1) (xs ++ [x]) :=
  ⟨ho, (h.2.alloc h.size o).grown hg (by have := h.size; simp; omega) (by rintro q ⟨⟩; exact Nat.le_refl _)⟩

theorem one_news (wi : World) (c : Value) : ∀ j u, [c][j]? = some u → (wi.alloc (.cells #[c] 5)).cell? ((⟨wi.heap.size, 0, none⟩ : Addr).add j) = some u := by
  intro j u hj
  match j, hj with
  | 0, hj => simp at hj; subst hj; simp [Addr.add]
theorem one_cell (n : Int) : ∀ u ∈ [Value.int .u8 n], u.oneCell' = true := by
  intro u hu; simp at hu; subst hu; rfl

theorem st_make {w w' : World} (ho : w'.ownsRow w.heap.size 5 1 (.slice (some ⟨w.heap.size, 0, none⟩) 0 27) 0 []) (hg : w.grownBy w' none) : St w w' 0 [] :=
  ⟨ho, (Below.refl _ _).grown hg (Nat.le_refl _) (by rintro q ⟨⟩)⟩

/-- What is converted at the end. -/
theorem conv_st {w wi : World} {zs : List Int} (h : St w wi 27 (zs.map (Value.int .u8))) (hl : zs.length = 27) :
    (convert 22 9 (.slice (some ⟨w.heap.size, 0, none⟩) 27 27)).run Try.prog wi = .ok (.string (strOfNums zs)) wi := by
  refine run_convert_bytes_arg wi 22 5 Try.underlying22 Try.underlying5 w.heap.size 0 27 27 zs hl ?_ 9 Try.underlying9
  intro i hi
  have := h.1.cellAt i (by omega)
  simp only [Nat.zero_add]
  rw [this]
  simp [hl, hi]

theorem dig_ok (p : Nat) (e : Int) (h : 48 ≤ p ∧ p ≤ 57) : okAt p (UInt8.ofNat (48 + e % 10).toNat).toNat := by
  unfold okAt
  rw [if_pos h]
  have : (UInt8.ofNat (48 + e % 10).toNat).toNat = (48 + e % 10).toNat := by
    simp; omega
  omega

theorem same_ok (p : Nat) (h : ¬ (48 ≤ p ∧ p ≤ 57)) : okAt p p := by unfold okAt; rw [if_neg h]

theorem all_ok (a0 a1 a2 a3 a4 a5 a6 : Int) (k : Nat) (h : k < 27) : okAt (plainB[k]'h).toNat ((strOfNums [48 + a0 / 10 / 10 / 10 % 10, 48 + a0 / 10 / 10 % 10, 48 + a0 / 10 % 10, 48 + a0 % 10, 45, 48 + a1 / 10 % 10, 48 + a1 % 10, 45, 48 + a2 / 10 % 10, 48 + a2 % 10, 84, 48 + a3 / 10 % 10, 48 + a3 % 10, 58, 48 + a4 / 10 % 10, 48 + a4 % 10, 58, 48 + a5 / 10 % 10, 48 + a5 % 10, 46, 48 + a6 / 10 / 10 / 10 / 10 / 10 % 10, 48 + a6 / 10 / 10 / 10 / 10 % 10, 48 + a6 / 10 / 10 / 10 % 10, 48 + a6 / 10 / 10 % 10, 48 + a6 / 10 % 10, 48 + a6 % 10, 90])[k]'(by rw [strOfNums_size]; exact h)).toNat := by
  match k, h with
  | 0, _ => exact dig_ok 50 (a0 / 10 / 10 / 10) (by decide)
  | 1, _ => exact dig_ok 48 (a0 / 10 / 10) (by decide)
  | 2, _ => exact dig_ok 48 (a0 / 10) (by decide)
  | 3, _ => exact dig_ok 54 (a0) (by decide)
  | 4, _ => exact same_ok 45 (by decide)
  | 5, _ => exact dig_ok 48 (a1 / 10) (by decide)
  | 6, _ => exact dig_ok 49 (a1) (by decide)
  | 7, _ => exact same_ok 45 (by decide)
  | 8, _ => exact dig_ok 48 (a2 / 10) (by decide)
  | 9, _ => exact dig_ok 50 (a2) (by decide)
  | 10, _ => exact same_ok 84 (by decide)
  | 11, _ => exact dig_ok 49 (a3 / 10) (by decide)
  | 12, _ => exact dig_ok 53 (a3) (by decide)
  | 13, _ => exact same_ok 58 (by decide)
  | 14, _ => exact dig_ok 48 (a4 / 10) (by decide)
  | 15, _ => exact dig_ok 52 (a4) (by decide)
  | 16, _ => exact same_ok 58 (by decide)
  | 17, _ => exact dig_ok 48 (a5 / 10) (by decide)
  | 18, _ => exact dig_ok 53 (a5) (by decide)
  | 19, _ => exact same_ok 46 (by decide)
  | 20, _ => exact dig_ok 48 (a6 / 10 / 10 / 10 / 10 / 10) (by decide)
  | 21, _ => exact dig_ok 48 (a6 / 10 / 10 / 10 / 10) (by decide)
  | 22, _ => exact dig_ok 48 (a6 / 10 / 10 / 10) (by decide)
  | 23, _ => exact dig_ok 48 (a6 / 10 / 10) (by decide)
  | 24, _ => exact dig_ok 48 (a6 / 10) (by decide)
  | 25, _ => exact dig_ok 48 (a6) (by decide)
  | 26, _ => exact same_ok 90 (by decide)
  | n + 27, h => exact absurd h (by omega)

set_option maxHeartbeats 4000000 in
theorem walk_in (a0 a1 a2 a3 a4 a5 a6 : Int) (r0 : 0 ≤ a0) (r1 : 0 ≤ a1) (r2 : 0 ≤ a2) (r3 : 0 ≤ a3) (r4 : 0 ≤ a4) (r5 : 0 ≤ a5) (r6 : 0 ≤ a6) (l0 : a0 ≤ 9999) (l1 : a1 ≤ 99) (l2 : a2 ≤ 99) (l3 : a3 ≤ 99) (l4 : a4 ≤ 99) (l5 : a5 ≤ 99) (l6 : a6 ≤ 999999) (w : World) :
    Calls Try.prog 5 #[.int .u32 a0, .int .u32 a1, .int .u32 a2, .int .u32 a3, .int .u32 a4, .int .u32 a5, .int .u32 a6] w fun e w' => e = .returned (.bool true) ∧ Below w.heap.size w w' := by
  obtain ⟨i0, hi, hz0, hz1, hz2⟩ := info_parts Try.info5
  go_enter Try.func5, Try.ntmps5
  go_wp2_with (at_make; refine wpList_make_own _ rfl _ _ 22 rfl w.heap.size 5 i0 (.int .u8 0) 1 Try.underlying22 hi hz0 hz1 _ _ _ 27 rfl rfl rfl ?b1 ?b2 (Nat.le_refl _) ?_)
  case b1 => rw [hz2]; decide
  case b2 => decide
  intro w0 ho hg
  have H0 : Hid (St w w0 0 []) := st_make ho hg
  clear ho hg
  go_wp2_with fail
  refine (pad4_st w w0 0 4 _ a0 H0.out (by omega) (by omega) rfl (by decide)).mono ?_
  rintro e w1 ⟨rfl, h1⟩
  have H1 : Hid (St w w1 4 _) := h1
  clear h1 H0
  go_wp2_with (at_builtin; refine wpList_append_fits _ rfl (.tmp 46) (.tmp 47) 22 rfl w.heap.size 5 i0 1 Try.underlying22 hi hz1 w.heap.size 4 27 _ rfl (H1.out.1.alloc _) ⟨w1.heap.size, 0, none⟩ 1 1 [.int .u8 45] rfl rfl (one_news _ _) (one_cell _) (by decide) ?_)
  intro w2 ho hg
  have H2 : Hid (St w w2 5 _) := st_app H1.out ho hg
  clear ho hg H1
  go_wp2_with fail
  refine (pad2_st w w2 5 7 _ a1 H2.out (by omega) (by omega) rfl (by decide)).mono ?_
  rintro e w3 ⟨rfl, h3⟩
  have H3 : Hid (St w w3 7 _) := h3
  clear h3 H2
  go_wp2_with (at_builtin; refine wpList_append_fits _ rfl (.tmp 52) (.tmp 53) 22 rfl w.heap.size 5 i0 1 Try.underlying22 hi hz1 w.heap.size 7 27 _ rfl (H3.out.1.alloc _) ⟨w3.heap.size, 0, none⟩ 1 1 [.int .u8 45] rfl rfl (one_news _ _) (one_cell _) (by decide) ?_)
  intro w4 ho hg
  have H4 : Hid (St w w4 8 _) := st_app H3.out ho hg
  clear ho hg H3
  go_wp2_with fail
  refine (pad2_st w w4 8 10 _ a2 H4.out (by omega) (by omega) rfl (by decide)).mono ?_
  rintro e w5 ⟨rfl, h5⟩
  have H5 : Hid (St w w5 10 _) := h5
  clear h5 H4
  go_wp2_with (at_builtin; refine wpList_append_fits _ rfl (.tmp 58) (.tmp 59) 22 rfl w.heap.size 5 i0 1 Try.underlying22 hi hz1 w.heap.size 10 27 _ rfl (H5.out.1.alloc _) ⟨w5.heap.size, 0, none⟩ 1 1 [.int .u8 84] rfl rfl (one_news _ _) (one_cell _) (by decide) ?_)
  intro w6 ho hg
  have H6 : Hid (St w w6 11 _) := st_app H5.out ho hg
  clear ho hg H5
  go_wp2_with fail
  refine (pad2_st w w6 11 13 _ a3 H6.out (by omega) (by omega) rfl (by decide)).mono ?_
  rintro e w7 ⟨rfl, h7⟩
  have H7 : Hid (St w w7 13 _) := h7
  clear h7 H6
  go_wp2_with (at_builtin; refine wpList_append_fits _ rfl (.tmp 64) (.tmp 65) 22 rfl w.heap.size 5 i0 1 Try.underlying22 hi hz1 w.heap.size 13 27 _ rfl (H7.out.1.alloc _) ⟨w7.heap.size, 0, none⟩ 1 1 [.int .u8 58] rfl rfl (one_news _ _) (one_cell _) (by decide) ?_)
  intro w8 ho hg
  have H8 : Hid (St w w8 14 _) := st_app H7.out ho hg
  clear ho hg H7
  go_wp2_with fail
  refine (pad2_st w w8 14 16 _ a4 H8.out (by omega) (by omega) rfl (by decide)).mono ?_
  rintro e w9 ⟨rfl, h9⟩
  have H9 : Hid (St w w9 16 _) := h9
  clear h9 H8
  go_wp2_with (at_builtin; refine wpList_append_fits _ rfl (.tmp 70) (.tmp 71) 22 rfl w.heap.size 5 i0 1 Try.underlying22 hi hz1 w.heap.size 16 27 _ rfl (H9.out.1.alloc _) ⟨w9.heap.size, 0, none⟩ 1 1 [.int .u8 58] rfl rfl (one_news _ _) (one_cell _) (by decide) ?_)
  intro w10 ho hg
  have H10 : Hid (St w w10 17 _) := st_app H9.out ho hg
  clear ho hg H9
  go_wp2_with fail
  refine (pad2_st w w10 17 19 _ a5 H10.out (by omega) (by omega) rfl (by decide)).mono ?_
  rintro e w11 ⟨rfl, h11⟩
  have H11 : Hid (St w w11 19 _) := h11
  clear h11 H10
  go_wp2_with (at_builtin; refine wpList_append_fits _ rfl (.tmp 76) (.tmp 77) 22 rfl w.heap.size 5 i0 1 Try.underlying22 hi hz1 w.heap.size 19 27 _ rfl (H11.out.1.alloc _) ⟨w11.heap.size, 0, none⟩ 1 1 [.int .u8 46] rfl rfl (one_news _ _) (one_cell _) (by decide) ?_)
  intro w12 ho hg
  have H12 : Hid (St w w12 20 _) := st_app H11.out ho hg
  clear ho hg H11
  go_wp2_with fail
  refine (pad6_st w w12 20 26 _ a6 H12.out (by omega) (by omega) rfl (by decide)).mono ?_
  rintro e w13 ⟨rfl, h13⟩
  have H13 : Hid (St w w13 26 _) := h13
  clear h13 H12
  go_wp2_with (at_builtin; refine wpList_append_fits _ rfl (.tmp 82) (.tmp 83) 22 rfl w.heap.size 5 i0 1 Try.underlying22 hi hz1 w.heap.size 26 27 _ rfl (H13.out.1.alloc _) ⟨w13.heap.size, 0, none⟩ 1 1 [.int .u8 90] rfl rfl (one_news _ _) (one_cell _) (by decide) ?_)
  intro w14 ho hg
  have H14 : Hid (St w w14 27 _) := st_app H13.out ho hg
  clear ho hg H13
  have hcv := conv_st (zs := [48 + a0 / 10 / 10 / 10 % 10, 48 + a0 / 10 / 10 % 10, 48 + a0 / 10 % 10, 48 + a0 % 10, 45, 48 + a1 / 10 % 10, 48 + a1 % 10, 45, 48 + a2 / 10 % 10, 48 + a2 % 10, 84, 48 + a3 / 10 % 10, 48 + a3 % 10, 58, 48 + a4 / 10 % 10, 48 + a4 % 10, 58, 48 + a5 / 10 % 10, 48 + a5 % 10, 46, 48 + a6 / 10 / 10 / 10 / 10 / 10 % 10, 48 + a6 / 10 / 10 / 10 / 10 % 10, 48 + a6 / 10 / 10 / 10 % 10, 48 + a6 / 10 / 10 % 10, 48 + a6 / 10 % 10, 48 + a6 % 10, 90]) H14.out rfl
  go_wp2_with fail
  refine (zzplain_any _ _ (by rw [strOfNums_size]; rfl) (all_ok a0 a1 a2 a3 a4 a5 a6)).mono ?_
  rintro e w' ⟨rfl, rfl⟩
  clear hcv
  go_wp2
  go_ret
  exact ⟨rfl, H14.out.2⟩

set_option maxHeartbeats 1000000 in
theorem walk_out (a0 a1 a2 a3 a4 a5 a6 : Int) (h : (9999 < a0) ∨ (a0 ≤ 9999 ∧ 99 < a1) ∨ (a0 ≤ 9999 ∧ a1 ≤ 99 ∧ 99 < a2) ∨ (a0 ≤ 9999 ∧ a1 ≤ 99 ∧ a2 ≤ 99 ∧ 99 < a3) ∨ (a0 ≤ 9999 ∧ a1 ≤ 99 ∧ a2 ≤ 99 ∧ a3 ≤ 99 ∧ 99 < a4) ∨ (a0 ≤ 9999 ∧ a1 ≤ 99 ∧ a2 ≤ 99 ∧ a3 ≤ 99 ∧ a4 ≤ 99 ∧ 99 < a5) ∨ (a0 ≤ 9999 ∧ a1 ≤ 99 ∧ a2 ≤ 99 ∧ a3 ≤ 99 ∧ a4 ≤ 99 ∧ a5 ≤ 99 ∧ 999999 < a6)) (w : World) :
    Calls Try.prog 5 #[.int .u32 a0, .int .u32 a1, .int .u32 a2, .int .u32 a3, .int .u32 a4, .int .u32 a5, .int .u32 a6] w fun e w' => e = .returned (.bool true) ∧ Below w.heap.size w w' := by
  rcases h with g0 | ⟨g0, g1⟩ | ⟨g0, g1, g2⟩ | ⟨g0, g1, g2, g3⟩ | ⟨g0, g1, g2, g3, g4⟩ | ⟨g0, g1, g2, g3, g4, g5⟩ | ⟨g0, g1, g2, g3, g4, g5, g6⟩
  all_goals
    go_enter Try.func5, Try.ntmps5
    go_wp2
    go_ret
    exact ⟨rfl, Below.refl _ _⟩

theorem walk (a0 : Int) (a1 : Int) (a2 : Int) (a3 : Int) (a4 : Int) (a5 : Int) (a6 : Int) (w0 : (Lit.int .u32 a0).wf = true) (w1 : (Lit.int .u32 a1).wf = true) (w2 : (Lit.int .u32 a2).wf = true) (w3 : (Lit.int .u32 a3).wf = true) (w4 : (Lit.int .u32 a4).wf = true) (w5 : (Lit.int .u32 a5).wf = true) (w6 : (Lit.int .u32 a6).wf = true) (w : World) :
    Calls Try.prog 5 #[.int .u32 a0, .int .u32 a1, .int .u32 a2, .int .u32 a3, .int .u32 a4, .int .u32 a5, .int .u32 a6] w fun e w' => e = .returned (.bool true) ∧ Below w.heap.size w w' := by
  have b0 := bounds_u32 w0
  have b1 := bounds_u32 w1
  have b2 := bounds_u32 w2
  have b3 := bounds_u32 w3
  have b4 := bounds_u32 w4
  have b5 := bounds_u32 w5
  have b6 := bounds_u32 w6
  by_cases h : a0 ≤ 9999 ∧ a1 ≤ 99 ∧ a2 ≤ 99 ∧ a3 ≤ 99 ∧ a4 ≤ 99 ∧ a5 ≤ 99 ∧ a6 ≤ 999999
  · obtain ⟨l0, l1, l2, l3, l4, l5, l6⟩ := h
    exact walk_in a0 a1 a2 a3 a4 a5 a6 b0.1 b1.1 b2.1 b3.1 b4.1 b5.1 b6.1 l0 l1 l2 l3 l4 l5 l6 w
  · exact walk_out a0 a1 a2 a3 a4 a5 a6 (by omega) w

/-! ### THE ROW's STEP: WRITTEN OUT: LEAVE IT -/
set_option maxRecDepth 100000 in
theorem lifted (os : Os) (started : os.Started) (H : Type) (enc : TypeId × Value → H) :
    ReturnsInHanded {} Try.checked os 5 .any (Rows.fnIsPlainMicroTimeAcceptsEveryComponentSpellingSpec.pre6 enc Try.prog Try.f5 Rows.fnIsPlainMicroTimeAcceptsEveryComponentSpellingRow.domain false) (Rows.fnIsPlainMicroTimeAcceptsEveryComponentSpellingSpec.post enc Try.prog Try.f5 false true false false) := by
  refine returnsInHanded_of_change (C := Try.checked) own started (by kernel_rfl) Try.func5
    (ChangeSpec.witness6 (enc := enc) (C := Try.checked) false ⟨#[], #[.int .u32 0, .int .u32 0, .int .u32 0, .int .u32 0, .int .u32 0, .int .u32 0, .int .u32 0], []⟩ 8 (by kernel_rfl) (by kernel_rfl) (by kernel_rfl) (by kernel_rfl)) ?_
  intro W base args ds gs before hval0 hW hcnd _
  have hval : ∀ (j : Nat) t v, Try.f5.params[j]? = some t → args[j]? = some v → Value.okWide Try.prog W .any base t v := hval0
  have hW' := hW
  obtain ⟨p, q, hA0, hV, rfl, hfz, hnd⟩ := hW
  have hA : DataW.TrodAll enc Try.prog W 0 (fun _ => true) true Try.f5.params.toList args.toList ds p := hA0
  rw [Try.params5] at hA hval
  obtain ⟨v0, vs0, d0, ds0, p0, q0, hargs, rfl, rfl, h0, r0⟩ := trodAll_cons hA
  obtain ⟨v1, vs1, d1, ds1, p1, q1, rfl, rfl, rfl, h1, r1⟩ := trodAll_cons r0
  obtain ⟨v2, vs2, d2, ds2, p2, q2, rfl, rfl, rfl, h2, r2⟩ := trodAll_cons r1
  obtain ⟨v3, vs3, d3, ds3, p3, q3, rfl, rfl, rfl, h3, r3⟩ := trodAll_cons r2
  obtain ⟨v4, vs4, d4, ds4, p4, q4, rfl, rfl, rfl, h4, r4⟩ := trodAll_cons r3
  obtain ⟨v5, vs5, d5, ds5, p5, q5, rfl, rfl, rfl, h5, r5⟩ := trodAll_cons r4
  obtain ⟨v6, vs6, d6, ds6, p6, q6, rfl, rfl, rfl, h6, r6⟩ := trodAll_cons r5
  obtain ⟨rfl, rfl, rfl⟩ := trodAll_nil r6
  obtain rfl : args = #[v0, v1, v2, v3, v4, v5, v6] := by cases args; simp_all
  obtain ⟨rfl, rfl⟩ := trodVars_none hV
  obtain ⟨a0, rfl, rfl, rfl, w0⟩ := open_int Try.underlying25 (hval 0 25 v0 rfl rfl) h0
  obtain ⟨a1, rfl, rfl, rfl, w1⟩ := open_int Try.underlying25 (hval 1 25 v1 rfl rfl) h1
  obtain ⟨a2, rfl, rfl, rfl, w2⟩ := open_int Try.underlying25 (hval 2 25 v2 rfl rfl) h2
  obtain ⟨a3, rfl, rfl, rfl, w3⟩ := open_int Try.underlying25 (hval 3 25 v3 rfl rfl) h3
  obtain ⟨a4, rfl, rfl, rfl, w4⟩ := open_int Try.underlying25 (hval 4 25 v4 rfl rfl) h4
  obtain ⟨a5, rfl, rfl, rfl, w5⟩ := open_int Try.underlying25 (hval 5 25 v5 rfl rfl) h5
  obtain ⟨a6, rfl, rfl, rfl, w6⟩ := open_int Try.underlying25 (hval 6 25 v6 rfl rfl) h6
  clear hA0 hval0
  refine (walk a0 a1 a2 a3 a4 a5 a6 w0 w1 w2 w3 w4 w5 w6 W).mono fun e W' ⟨he, bel⟩ => ?_
  subst he
  exact ⟨_, rfl, _, _, _, [], _, [], hW', trodAll_mk1 (shut_bool Try.underlying4 _), (trodAll_cons_mk (shut_int Try.underlying25 w0) (trodAll_cons_mk (shut_int Try.underlying25 w1) (trodAll_cons_mk (shut_int Try.underlying25 w2) (trodAll_cons_mk (shut_int Try.underlying25 w3) (trodAll_cons_mk (shut_int Try.underlying25 w4) (trodAll_cons_mk (shut_int Try.underlying25 w5) (trodAll_cons_mk (shut_int Try.underlying25 w6) trodAll_mk0))))))), rfl, bel.frame _, fun h => by cases h⟩

theorem over : Rows.fnIsPlainMicroTimeAcceptsEveryComponentSpellingRow.holds Try.pinned (OpenSpec.ofChange Rows.fnIsPlainMicroTimeAcceptsEveryComponentSpellingSpec) :=
  OpenClaim.holds_of_wide 5 Try.f5 rfl rfl rfl rfl rfl rfl rfl ⟨rfl, rfl, rfl, rfl, rfl⟩ rfl rfl rfl rfl rfl (by kernel_rfl) Try.func5 (by kernel_rfl)
    (of_decide_eq_true (by kernel_rfl)) (by unfold Func.isWrapper; first | (rw [if_pos (by decide +kernel)]; kernel_rfl) | (rw [if_neg (by decide +kernel)]; exact ⟨rfl, rfl⟩))
    (fun os started H enc _ => lifted os started H enc)

/-- ████ THE STATEMENT ████ -/
theorem proved : Rows.FnIsPlainMicroTimeAcceptsEveryComponentSpellingSaid :=
  over
end Go.Proofs.Qxb6602886a.fnIsPlainMicroTimeAcceptsEveryComponentSpelling
