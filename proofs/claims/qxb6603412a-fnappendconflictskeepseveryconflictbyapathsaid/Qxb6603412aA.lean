/-
  THE WALKS OF THE CLONES, THE CONVERTERS, ZZEdgeParts.
-/
import Derived.Test.Qxb6603412aRows
import Derived.Test.Qxb6603412aFlat
import Derived.WalkLawsBesides
import Derived.WalkSpells
import Derived.ProofKit
import Derived.Deep.QuietTactic
import Derived.BigQuiet
import Derived.Deep.LoopGhost
import Derived.Deep.CutRange
import Derived.Deep.DeepCutAuto
import Derived.Deep.RegionHeld3
namespace Go.Proofs.Qxb6603412a
open Go.RowKit
set_option linter.unusedVariables false

theorem Try.inf42 : (Try.prog.info? 42).map (fun i => (i.zero, i.size, i.bytes)) = some (some (.agg #[.int .i64 0, .int .i64 0, .int .i64 0]), 3, 24) := by kernel_rfl
theorem Try.inf58 : (Try.prog.info? 58).map (fun i => (i.zero, i.size, i.bytes)) = some (some (.agg #[.int .i64 0, .int .i64 0, .bool false]), 3, 24) := by kernel_rfl
theorem Try.inf40 : (Try.prog.info? 40).map (fun i => (i.zero, i.size, i.bytes)) = some (some (.agg #[.int .i64 0, .int .i64 0, .int .i64 0]), 3, 24) := by kernel_rfl
theorem Try.inf62 : (Try.prog.info? 62).map (fun i => (i.zero, i.size, i.bytes)) = some (some (.agg #[.int .i64 0, .int .i64 0, .bool false]), 3, 24) := by kernel_rfl

theorem ret3 {a b c a' b' c' : Int} (h1 : a = a') (h2 : b = b') (h3 : c = c') : Ending.returned (.tuple #[.int .i64 a, .int .i64 b, .int .i64 c]) = .returned (.tuple #[.int .i64 a', .int .i64 b', .int .i64 c']) := by rw [h1, h2, h3]

theorem parts_any (f t p : Int) (w : World) : Calls Try.prog 14 #[.agg #[.int .i64 f, .int .i64 t, .int .i64 p]] w fun e w' => e = .returned (.tuple #[.int .i64 f, .int .i64 t, .int .i64 p]) ∧ Below w.heap.size w w' := by
  go_enter Try.func14, Try.ntmps14
  go_wp2
  go_quiet (fail)
  go_wp2
  go_ret3
  exact ⟨rfl, below_drewN ((Below.refl _ _).alloc (Nat.le_refl _) _) _⟩
theorem mkE_any (f t p : Int) (w : World) : Calls Try.prog 26 #[.int .i64 f, .int .i64 t, .int .i64 p] w fun e w' => e = .returned (.agg #[.int .i64 f, .int .i64 t, .int .i64 p]) ∧ w' = w.alloc (.cells #[.int .i64 f, .int .i64 t, .int .i64 p] 40) := by
  go_enter Try.func26, Try.ntmps26
  go_wp2
  exact bodyPost_ret (v := .agg #[.int .i64 f, .int .i64 t, .int .i64 p]) (by simp [results, Try.results26, go_sem]) rfl ⟨rfl, rfl⟩
theorem mkG_any (t i : Int) (x : Bool) (w : World) : Calls Try.prog 27 #[.int .i64 t, .int .i64 i, .bool x] w fun e w' => e = .returned (.agg #[.int .i64 t, .int .i64 i, .bool x]) ∧ w' = w.alloc (.cells #[.int .i64 t, .int .i64 i, .bool x] 62) := by
  go_enter Try.func27, Try.ntmps27
  go_wp2
  exact bodyPost_ret (v := .agg #[.int .i64 t, .int .i64 i, .bool x]) (by simp [results, Try.results27, go_sem]) rfl ⟨rfl, rfl⟩

/-- What a clone or a converter hands back, in block w.heap.size. -/
def Made (e n : Nat) (Y : List V3) (w : World) (en : Ending) (w' : World) : Prop :=
  en = .returned (.slice (some ⟨w.heap.size, 0, none⟩) n n) ∧ Own3 w' e w.heap.size n n Y ∧ Below w.heap.size w w'

theorem cloneE_nil (w : World) : Calls Try.prog 7 #[.slice none 0 0] w fun e w' => e = .returned (.slice none 0 0) ∧ w = w' := by
  have hnil := fun w => Lib.run_eql_slice_nil (P := Try.prog) w 22 42 none 0 0 0 0 Try.underlying22
  go_enter Try.func7, Try.ntmps7
  go_wp2
  go_ret
  exact ⟨rfl, rfl⟩
theorem cloneG_nil (w : World) : Calls Try.prog 8 #[.slice none 0 0] w fun e w' => e = .returned (.slice none 0 0) ∧ w = w' := by
  have hnil := fun w => Lib.run_eql_slice_nil (P := Try.prog) w 23 58 none 0 0 0 0 Try.underlying23
  go_enter Try.func8, Try.ntmps8
  go_wp2
  go_ret
  exact ⟨rfl, rfl⟩
theorem edgesIn_nil (w : World) : Calls Try.prog 12 #[.slice none 0 0] w fun e w' => e = .returned (.slice none 0 0) ∧ w = w' := by
  have hnil := fun w => Lib.run_eql_slice_nil (P := Try.prog) w 22 42 none 0 0 0 0 Try.underlying22
  go_enter Try.func12, Try.ntmps12
  go_wp2
  go_ret
  exact ⟨rfl, rfl⟩
theorem grants_nil (w : World) : Calls Try.prog 13 #[.slice none 0 0] w fun e w' => e = .returned (.slice none 0 0) ∧ w = w' := by
  have hnil := fun w => Lib.run_eql_slice_nil (P := Try.prog) w 23 58 none 0 0 0 0 Try.underlying23
  go_enter Try.func13, Try.ntmps13
  go_wp2
  go_ret
  exact ⟨rfl, rfl⟩

set_option maxHeartbeats 1000000 in
theorem cloneE_some (x : Addr) (n c : Nat) (E : List (Int × Int × Int)) (w : World) (hn : E.length = n) (hl : n ≤ 1048576) (hr : TRow w (some x) (E.map eV)) :
    Calls Try.prog 7 #[.slice (some x) n c] w (Made 42 n (E.map eV) w) := by
  obtain ⟨i0, hi, hz0, hz1, hz2⟩ := info_parts Try.inf42
  have hnil := fun w => Lib.run_eql_slice_nil (P := Try.prog) w 22 42 (some x) n c 0 0 Try.underlying22
  have HR : Hid (TRow w (some x) (E.map eV)) := hr
  have HN : Hid (E.length = n ∧ (E.map eV).length = n) := ⟨hn, by simpa using hn⟩
  clear hr hn
  go_enter Try.func7, Try.ntmps7
  go_wp2_with (at_make; refine wpList_make_full _ rfl _ _ 22 rfl 0 42 i0 _ 3 Try.underlying22 hi hz0 hz1 _ _ _ _ n rfl rfl rfl rfl ?b1 ?b2 (Nat.zero_le _) ?_)
  case b1 => rw [hz2]; omega
  case b2 => unfold maxLen; omega
  intro w0 ho hg
  have H0 : Hid (Own3 w0 42 w.heap.size n n (half3 (E.map eV) (.int .i64 0, .int .i64 0, .int .i64 0) 0) ∧ Below w.heap.size w w0) := by
    refine ⟨?_, (Below.refl _ _).grown hg (Nat.le_refl _) (by rintro q ⟨⟩)⟩
    rw [half3_zero, HN.out.2]
    unfold Own3
    rw [← flat_rep]; exact ho
  clear ho hg hnil
  go_wp2
  go_loopg [4] (n + 1) (fun g i wr => ∃ k : Nat, k ≤ n ∧ g = n + 1 - k ∧ i = .int .i64 k ∧ Hid (Own3 wr 42 w.heap.size n n (half3 (E.map eV) (.int .i64 0, .int .i64 0, .int .i64 0) k) ∧ Below w.heap.size w wr))
  case atStart => exact ⟨0, Nat.zero_le _, rfl, rfl, H0⟩
  case round =>
    obtain ⟨k, hk, hg, rfl, HH⟩ := hrel
    clear H0
    by_cases hlt : k < n
    · obtain ⟨b, off, f, t, p, hx, hE, h0, h1, h2⟩ := erow_at (HR.out.below HH.out.2) (k := k) (by have := HN.out; omega)
      obtain rfl : x = ⟨b, off, none⟩ := by simpa using hx
      obtain ⟨d0, d1, d2⟩ := HH.out.1.cells hlt
      have f0 := HH.out.1.frozen (k * 3)
      have f1 := HH.out.1.frozen (k * 3 + 1)
      have f2 := HH.out.1.frozen (k * 3 + 2)
      have HS : Hid (Own3 (((wr.setCell ⟨w.heap.size, k * 3, none⟩ (.int .i64 f)).setCell ⟨w.heap.size, k * 3 + 1, none⟩ (.int .i64 t)).setCell ⟨w.heap.size, k * 3 + 2, none⟩ (.int .i64 p)) 42 w.heap.size n n (half3 (E.map eV) (.int .i64 0, .int .i64 0, .int .i64 0) (k + 1)) ∧
          Below w.heap.size w (((wr.setCell ⟨w.heap.size, k * 3, none⟩ (.int .i64 f)).setCell ⟨w.heap.size, k * 3 + 1, none⟩ (.int .i64 t)).setCell ⟨w.heap.size, k * 3 + 2, none⟩ (.int .i64 p))) := by
        refine ⟨?_, ((HH.out.2.setCell (Nat.le_refl _) _).setCell (Nat.le_refl _) _).setCell (Nat.le_refl _) _⟩
        have h := HH.out.1.store hlt (.int .i64 f, .int .i64 t, .int .i64 p)
        rw [← half3_set (E.map eV) _ (eV (0, 0, 0)) k (by rw [HN.out.2]; exact hlt)]
        have e : (E.map eV).getD k (eV (0, 0, 0)) = (.int .i64 f, .int .i64 t, .int .i64 p) := by
          have : (E.map eV).getD k (eV (0, 0, 0)) = eV (E.getD k (0, 0, 0)) := by
            simp only [List.getD, List.getElem?_map]; cases E[k]? <;> rfl
          rw [this, hE]; rfl
        rw [e]; exact h
      obtain ⟨z, hz⟩ : ∃ z, (half3 (E.map eV) (.int .i64 0, .int .i64 0, .int .i64 0) k).getD k (undef, undef, undef) = z := ⟨_, rfl⟩
      obtain ⟨z0, z1, z2⟩ := z
      rw [hz] at d0 d1 d2
      clear hz hx hE
      go_wp2
      go_roundg (n + 1 - (k + 1))
      case measure => omega
      case rel => exact ⟨k + 1, by omega, rfl, by go_num, HS⟩
    · have HF : Hid (Own3 wr 42 w.heap.size n n (E.map eV) ∧ Below w.heap.size w wr) := by
        have h1 := HH.out
        rw [show k = (E.map eV).length by rw [HN.out.2]; omega, half3_all] at h1
        exact h1
      clear HH
      go_wp2
      go_ret
      exact ⟨rfl, HF.out⟩

set_option maxHeartbeats 1000000 in
theorem cloneG_some (x : Addr) (n c : Nat) (E : List (Int × Int × Bool)) (w : World) (hn : E.length = n) (hl : n ≤ 1048576) (hr : TRow w (some x) (E.map gV)) :
    Calls Try.prog 8 #[.slice (some x) n c] w (Made 58 n (E.map gV) w) := by
  obtain ⟨i0, hi, hz0, hz1, hz2⟩ := info_parts Try.inf58
  have hnil := fun w => Lib.run_eql_slice_nil (P := Try.prog) w 23 58 (some x) n c 0 0 Try.underlying23
  have HR : Hid (TRow w (some x) (E.map gV)) := hr
  have HN : Hid (E.length = n ∧ (E.map gV).length = n) := ⟨hn, by simpa using hn⟩
  clear hr hn
  go_enter Try.func8, Try.ntmps8
  go_wp2_with (at_make; refine wpList_make_full _ rfl _ _ 23 rfl 0 58 i0 _ 3 Try.underlying23 hi hz0 hz1 _ _ _ _ n rfl rfl rfl rfl ?b1 ?b2 (Nat.zero_le _) ?_)
  case b1 => rw [hz2]; omega
  case b2 => unfold maxLen; omega
  intro w0 ho hg
  have H0 : Hid (Own3 w0 58 w.heap.size n n (half3 (E.map gV) (.int .i64 0, .int .i64 0, .bool false) 0) ∧ Below w.heap.size w w0) := by
    refine ⟨?_, (Below.refl _ _).grown hg (Nat.le_refl _) (by rintro q ⟨⟩)⟩
    rw [half3_zero, HN.out.2]
    unfold Own3
    rw [← flat_rep]; exact ho
  clear ho hg hnil
  go_wp2
  go_loopg [4] (n + 1) (fun g i wr => ∃ k : Nat, k ≤ n ∧ g = n + 1 - k ∧ i = .int .i64 k ∧ Hid (Own3 wr 58 w.heap.size n n (half3 (E.map gV) (.int .i64 0, .int .i64 0, .bool false) k) ∧ Below w.heap.size w wr))
  case atStart => exact ⟨0, Nat.zero_le _, rfl, rfl, H0⟩
  case round =>
    obtain ⟨k, hk, hg, rfl, HH⟩ := hrel
    clear H0
    by_cases hlt : k < n
    · obtain ⟨b, off, f, t, p, hx, hE, h0, h1, h2⟩ := grow_at (HR.out.below HH.out.2) (k := k) (by have := HN.out; omega)
      obtain rfl : x = ⟨b, off, none⟩ := by simpa using hx
      obtain ⟨d0, d1, d2⟩ := HH.out.1.cells hlt
      have f0 := HH.out.1.frozen (k * 3)
      have f1 := HH.out.1.frozen (k * 3 + 1)
      have f2 := HH.out.1.frozen (k * 3 + 2)
      have HS : Hid (Own3 (((wr.setCell ⟨w.heap.size, k * 3, none⟩ (.int .i64 f)).setCell ⟨w.heap.size, k * 3 + 1, none⟩ (.int .i64 t)).setCell ⟨w.heap.size, k * 3 + 2, none⟩ (.bool p)) 58 w.heap.size n n (half3 (E.map gV) (.int .i64 0, .int .i64 0, .bool false) (k + 1)) ∧
          Below w.heap.size w (((wr.setCell ⟨w.heap.size, k * 3, none⟩ (.int .i64 f)).setCell ⟨w.heap.size, k * 3 + 1, none⟩ (.int .i64 t)).setCell ⟨w.heap.size, k * 3 + 2, none⟩ (.bool p))) := by
        refine ⟨?_, ((HH.out.2.setCell (Nat.le_refl _) _).setCell (Nat.le_refl _) _).setCell (Nat.le_refl _) _⟩
        have h := HH.out.1.store hlt (.int .i64 f, .int .i64 t, .bool p)
        rw [← half3_set (E.map gV) _ (gV (0, 0, false)) k (by rw [HN.out.2]; exact hlt)]
        have e : (E.map gV).getD k (gV (0, 0, false)) = (.int .i64 f, .int .i64 t, .bool p) := by
          have : (E.map gV).getD k (gV (0, 0, false)) = gV (E.getD k (0, 0, false)) := by
            simp only [List.getD, List.getElem?_map]; cases E[k]? <;> rfl
          rw [this, hE]; rfl
        rw [e]; exact h
      obtain ⟨z, hz⟩ : ∃ z, (half3 (E.map gV) (.int .i64 0, .int .i64 0, .bool false) k).getD k (undef, undef, undef) = z := ⟨_, rfl⟩
      obtain ⟨z0, z1, z2⟩ := z
      rw [hz] at d0 d1 d2
      clear hz hx hE
      go_wp2
      go_roundg (n + 1 - (k + 1))
      case measure => omega
      case rel => exact ⟨k + 1, by omega, rfl, by go_num, HS⟩
    · have HF : Hid (Own3 wr 58 w.heap.size n n (E.map gV) ∧ Below w.heap.size w wr) := by
        have h1 := HH.out
        rw [show k = (E.map gV).length by rw [HN.out.2]; omega, half3_all] at h1
        exact h1
      clear HH
      go_wp2
      go_ret
      exact ⟨rfl, HF.out⟩

set_option maxRecDepth 100000 in
set_option maxHeartbeats 2000000 in
theorem edgesIn_some (b off : Nat) (n c : Nat) (E : List (Int × Int × Int)) (w : World) (hn : E.length = n) (hl : n ≤ 1048576) (hr : TRow w (some ⟨b, off, none⟩) (E.map eV)) :
    Calls Try.prog 12 #[.slice (some ⟨b, off, none⟩) n c] w (Made 40 n (E.map eV) w) := by
  obtain ⟨i0, hi, hz0, hz1, hz2⟩ := info_parts Try.inf40
  have hnil := fun w => Lib.run_eql_slice_nil (P := Try.prog) w 22 42 (some ⟨b, off, none⟩) n c 0 0 Try.underlying22
  have HR : Hid (TRow w (some ⟨b, off, none⟩) (E.map eV)) := hr
  have HN : Hid (E.length = n ∧ (E.map eV).length = n) := ⟨hn, by simpa using hn⟩
  clear hr hn
  go_enter Try.func12, Try.ntmps12
  go_wp2_with (at_make; refine wpList_make_full _ rfl _ _ 32 rfl 0 40 i0 _ 3 Try.underlying32 hi hz0 hz1 _ _ _ _ n rfl rfl rfl rfl ?b1 ?b2 (Nat.zero_le _) ?_)
  case b1 => rw [hz2]; omega
  case b2 => unfold maxLen; omega
  intro w0 ho hg
  have H0 : Hid (Own3 w0 40 w.heap.size n n (half3 (E.map eV) (.int .i64 0, .int .i64 0, .int .i64 0) 0) ∧ Below w.heap.size w w0) := by
    refine ⟨?_, (Below.refl _ _).grown hg (Nat.le_refl _) (by rintro q ⟨⟩)⟩
    rw [half3_zero, HN.out.2]
    unfold Own3
    rw [← flat_rep]; exact ho
  clear ho hg hnil
  go_wp2
  go_loopg [4] (n + 1) (fun g i wr => ∃ k : Nat, k ≤ n ∧ g = n + 1 - k ∧ i = .int .i64 k ∧ Hid (Own3 wr 40 w.heap.size n n (half3 (E.map eV) (.int .i64 0, .int .i64 0, .int .i64 0) k) ∧ Below w.heap.size w wr))
  case atStart => exact ⟨0, Nat.zero_le _, rfl, rfl, H0⟩
  case round =>
    obtain ⟨k, hk, hg, rfl, HH⟩ := hrel
    clear H0
    by_cases hlt : k < n
    · obtain ⟨b', off', f, t, p, hx, hE, h0, h1, h2⟩ := erow_at (HR.out.below HH.out.2) (k := k) (by have := HN.out; omega)
      obtain ⟨rfl, rfl⟩ : b = b' ∧ off = off' := by simpa using hx
      obtain ⟨d0, d1, d2⟩ := HH.out.1.cells hlt
      obtain ⟨z, hz⟩ : ∃ z, (half3 (E.map eV) (.int .i64 0, .int .i64 0, .int .i64 0) k).getD k (undef, undef, undef) = z := ⟨_, rfl⟩
      obtain ⟨z0, z1, z2⟩ := z
      rw [hz] at d0 d1 d2
      have f0 := HH.out.1.frozen (k * 3)
      have f1 := HH.out.1.frozen (k * 3 + 1)
      have f2 := HH.out.1.frozen (k * 3 + 2)
      have hki : (k : Int) < (n : Int) := by omega
      have hsz : w.heap.size < wr.heap.size := HH.out.1.lt
      have hbz : b < wr.heap.size := World.block_lt_of_cell? wr _ h0
      have hbw : b < w.heap.size := by
        rcases HR.out with hh | ⟨b2, off2, e2, hc2⟩
        · have := HN.out.2; rw [hh] at this; simp at this; omega
        · obtain ⟨rfl, rfl⟩ : b = b2 ∧ off = off2 := by simpa using e2
          exact World.block_lt_of_cell? w _ (hc2 k (by rw [HN.out.2]; exact hlt)).1
      have hne : ¬ w.heap.size = b := by omega
      have HS : Hid (∀ o, Own3 ((((wr.setCell ⟨w.heap.size, k * 3, none⟩ (.int .i64 f)).setCell ⟨w.heap.size, k * 3 + 1, none⟩ (.int .i64 t)).setCell ⟨w.heap.size, k * 3 + 2, none⟩ (.int .i64 p)).alloc o).drew 40 w.heap.size n n (half3 (E.map eV) (.int .i64 0, .int .i64 0, .int .i64 0) (k + 1)) ∧
          Below w.heap.size w ((((wr.setCell ⟨w.heap.size, k * 3, none⟩ (.int .i64 f)).setCell ⟨w.heap.size, k * 3 + 1, none⟩ (.int .i64 t)).setCell ⟨w.heap.size, k * 3 + 2, none⟩ (.int .i64 p)).alloc o).drew) := by
        intro o
        have h := HH.out.1.store hlt (.int .i64 f, .int .i64 t, .int .i64 p)
        refine ⟨?_, ((((HH.out.2.setCell (Nat.le_refl _) _).setCell (Nat.le_refl _) _).setCell (Nat.le_refl _) _).alloc (by simp; omega) _).drew⟩
        rw [← half3_set (E.map eV) _ (eV (0, 0, 0)) k (by rw [HN.out.2]; exact hlt)]
        have e : (E.map eV).getD k (eV (0, 0, 0)) = (.int .i64 f, .int .i64 t, .int .i64 p) := by
          have : (E.map eV).getD k (eV (0, 0, 0)) = eV (E.getD k (0, 0, 0)) := by
            simp only [List.getD, List.getElem?_map]; cases E[k]? <;> rfl
          rw [this, hE]; rfl
        rw [e]
        exact Own3.keep h (Below.heap_alloc _ _ _ h.lt)
      clear hz hx hE
      go_wp2
      go_region_held3 (fun w' => w'.cell? ⟨b, off + k * 3, none⟩ = some (.int .i64 f) ∧ w'.cell? ⟨b, off + k * 3 + 1, none⟩ = some (.int .i64 t) ∧ w'.cell? ⟨b, off + k * 3 + 2, none⟩ = some (.int .i64 p)) (go_keep)
        (first | (go_at_call 26; refine (mkE_any f t p _).mono ?_; rintro e w' ⟨rfl, rfl⟩))
      go_wp2
      go_roundg (n + 1 - (k + 1))
      case measure => omega
      case rel => exact ⟨k + 1, by omega, rfl, by go_num, HS.out _⟩
    · have HF : Hid (Own3 wr 40 w.heap.size n n (E.map eV) ∧ Below w.heap.size w wr) := by
        have h1 := HH.out
        rw [show k = (E.map eV).length by rw [HN.out.2]; omega, half3_all] at h1
        exact h1
      clear HH
      go_wp2
      go_ret
      exact ⟨rfl, HF.out⟩
set_option maxRecDepth 100000 in
set_option maxHeartbeats 2000000 in
theorem grants_some (b off : Nat) (n c : Nat) (E : List (Int × Int × Bool)) (w : World) (hn : E.length = n) (hl : n ≤ 1048576) (hr : TRow w (some ⟨b, off, none⟩) (E.map gV)) :
    Calls Try.prog 13 #[.slice (some ⟨b, off, none⟩) n c] w (Made 62 n (E.map gV) w) := by
  obtain ⟨i0, hi, hz0, hz1, hz2⟩ := info_parts Try.inf62
  have hnil := fun w => Lib.run_eql_slice_nil (P := Try.prog) w 23 58 (some ⟨b, off, none⟩) n c 0 0 Try.underlying23
  have HR : Hid (TRow w (some ⟨b, off, none⟩) (E.map gV)) := hr
  have HN : Hid (E.length = n ∧ (E.map gV).length = n) := ⟨hn, by simpa using hn⟩
  clear hr hn
  go_enter Try.func13, Try.ntmps13
  go_wp2_with (at_make; refine wpList_make_full _ rfl _ _ 35 rfl 0 62 i0 _ 3 Try.underlying35 hi hz0 hz1 _ _ _ _ n rfl rfl rfl rfl ?b1 ?b2 (Nat.zero_le _) ?_)
  case b1 => rw [hz2]; omega
  case b2 => unfold maxLen; omega
  intro w0 ho hg
  have H0 : Hid (Own3 w0 62 w.heap.size n n (half3 (E.map gV) (.int .i64 0, .int .i64 0, .bool false) 0) ∧ Below w.heap.size w w0) := by
    refine ⟨?_, (Below.refl _ _).grown hg (Nat.le_refl _) (by rintro q ⟨⟩)⟩
    rw [half3_zero, HN.out.2]
    unfold Own3
    rw [← flat_rep]; exact ho
  clear ho hg hnil
  go_wp2
  go_loopg [4] (n + 1) (fun g i wr => ∃ k : Nat, k ≤ n ∧ g = n + 1 - k ∧ i = .int .i64 k ∧ Hid (Own3 wr 62 w.heap.size n n (half3 (E.map gV) (.int .i64 0, .int .i64 0, .bool false) k) ∧ Below w.heap.size w wr))
  case atStart => exact ⟨0, Nat.zero_le _, rfl, rfl, H0⟩
  case round =>
    obtain ⟨k, hk, hg, rfl, HH⟩ := hrel
    clear H0
    by_cases hlt : k < n
    · obtain ⟨b', off', f, t, p, hx, hE, h0, h1, h2⟩ := grow_at (HR.out.below HH.out.2) (k := k) (by have := HN.out; omega)
      obtain ⟨rfl, rfl⟩ : b = b' ∧ off = off' := by simpa using hx
      obtain ⟨d0, d1, d2⟩ := HH.out.1.cells hlt
      obtain ⟨z, hz⟩ : ∃ z, (half3 (E.map gV) (.int .i64 0, .int .i64 0, .bool false) k).getD k (undef, undef, undef) = z := ⟨_, rfl⟩
      obtain ⟨z0, z1, z2⟩ := z
      rw [hz] at d0 d1 d2
      have f0 := HH.out.1.frozen (k * 3)
      have f1 := HH.out.1.frozen (k * 3 + 1)
      have f2 := HH.out.1.frozen (k * 3 + 2)
      have hki : (k : Int) < (n : Int) := by omega
      have hsz : w.heap.size < wr.heap.size := HH.out.1.lt
      have hbz : b < wr.heap.size := World.block_lt_of_cell? wr _ h0
      have hbw : b < w.heap.size := by
        rcases HR.out with hh | ⟨b2, off2, e2, hc2⟩
        · have := HN.out.2; rw [hh] at this; simp at this; omega
        · obtain ⟨rfl, rfl⟩ : b = b2 ∧ off = off2 := by simpa using e2
          exact World.block_lt_of_cell? w _ (hc2 k (by rw [HN.out.2]; exact hlt)).1
      have hne : ¬ w.heap.size = b := by omega
      have HS : Hid (∀ o, Own3 ((((wr.setCell ⟨w.heap.size, k * 3, none⟩ (.int .i64 f)).setCell ⟨w.heap.size, k * 3 + 1, none⟩ (.int .i64 t)).setCell ⟨w.heap.size, k * 3 + 2, none⟩ (.bool p)).alloc o).drew 62 w.heap.size n n (half3 (E.map gV) (.int .i64 0, .int .i64 0, .bool false) (k + 1)) ∧
          Below w.heap.size w ((((wr.setCell ⟨w.heap.size, k * 3, none⟩ (.int .i64 f)).setCell ⟨w.heap.size, k * 3 + 1, none⟩ (.int .i64 t)).setCell ⟨w.heap.size, k * 3 + 2, none⟩ (.bool p)).alloc o).drew) := by
        intro o
        have h := HH.out.1.store hlt (.int .i64 f, .int .i64 t, .bool p)
        refine ⟨?_, ((((HH.out.2.setCell (Nat.le_refl _) _).setCell (Nat.le_refl _) _).setCell (Nat.le_refl _) _).alloc (by simp; omega) _).drew⟩
        rw [← half3_set (E.map gV) _ (gV (0, 0, false)) k (by rw [HN.out.2]; exact hlt)]
        have e : (E.map gV).getD k (gV (0, 0, false)) = (.int .i64 f, .int .i64 t, .bool p) := by
          have : (E.map gV).getD k (gV (0, 0, false)) = gV (E.getD k (0, 0, false)) := by
            simp only [List.getD, List.getElem?_map]; cases E[k]? <;> rfl
          rw [this, hE]; rfl
        rw [e]
        exact Own3.keep h (Below.heap_alloc _ _ _ h.lt)
      clear hz hx hE
      go_wp2
      go_region_held3 (fun w' => w'.cell? ⟨b, off + k * 3, none⟩ = some (.int .i64 f) ∧ w'.cell? ⟨b, off + k * 3 + 1, none⟩ = some (.int .i64 t) ∧ w'.cell? ⟨b, off + k * 3 + 2, none⟩ = some (.bool p)) (go_keep)
        (first | (go_at_call 27; refine (mkG_any f t p _).mono ?_; rintro e w' ⟨rfl, rfl⟩))
      go_wp2
      go_roundg (n + 1 - (k + 1))
      case measure => omega
      case rel => exact ⟨k + 1, by omega, rfl, by go_num, HS.out _⟩
    · have HF : Hid (Own3 wr 62 w.heap.size n n (E.map gV) ∧ Below w.heap.size w wr) := by
        have h1 := HH.out
        rw [show k = (E.map gV).length by rw [HN.out.2]; omega, half3_all] at h1
        exact h1
      clear HH
      go_wp2
      go_ret
      exact ⟨rfl, HF.out⟩
end Go.Proofs.Qxb6603412a
