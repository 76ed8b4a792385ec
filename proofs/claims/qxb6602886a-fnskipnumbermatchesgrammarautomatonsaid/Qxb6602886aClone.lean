/-
  THE WALK OF cloneBytes.
-/
import Derived.Test.Qxb6602886aRows
import Derived.WalkKit
import Derived.WalkLawsBesides
import Derived.WalkSpells
import Derived.ProofKit
namespace Go.Proofs.Qxb6602886a
open Go.RowKit

theorem Try.inf5 : (Try.prog.info? 5).map (fun i => (i.zero, i.size, i.bytes)) = some (some (.int .u8 0), 1, 1) := by kernel_rfl

/-- What the copy holds after k rounds. -/
def half (ys : List Int) (k : Nat) : List Int := ys.take k ++ List.replicate (ys.length - k) 0

theorem half_zero (ys : List Int) : (half ys 0).map (Value.int .u8) = List.replicate ys.length (Value.int .u8 0) := by simp [half]
theorem half_all (ys : List Int) : half ys ys.length = ys := by simp [half]
theorem half_len (ys : List Int) (k : Nat) (h : k ≤ ys.length) : (half ys k).length = ys.length := by simp [half]; omega
theorem half_set (ys : List Int) (k : Nat) (h : k < ys.length) : (half ys k).set k (ys.getD k 0) = half ys (k + 1) := by
  apply List.ext_getElem?
  intro j
  rw [List.getElem?_set]
  unfold half
  by_cases hj : k = j
  · subst hj
    rw [if_pos rfl, if_pos (by simp; omega)]
    rw [List.getElem?_append_left (by simp; omega)]
    simp [List.getD]
    rw [List.getElem?_eq_getElem h]; rfl
  · rw [if_neg hj]
    by_cases hlt : j < k
    · rw [List.getElem?_append_left (by simp; omega), List.getElem?_append_left (by simp; omega)]
      simp [hlt, show j < k + 1 by omega]
    · rw [List.getElem?_append_right (by simp; omega), List.getElem?_append_right (by simp; omega)]
      simp only [List.length_take, List.getElem?_replicate]
      have e1 : min k ys.length = k := by omega
      have e2 : min (k + 1) ys.length = k + 1 := by omega
      rw [e1, e2]
      by_cases hin : j < ys.length
      · rw [if_pos (by omega), if_pos (by omega)]
      · rw [if_neg (by omega), if_neg (by omega)]

/-- The copy, as the callers ask it. -/
def Copied (w w' : World) (ys : List Int) : Prop :=
  w'.ownsRow w.heap.size 5 1 (.slice (some ⟨w.heap.size, 0, none⟩) ys.length ys.length) ys.length (ys.map (Value.int .u8)) ∧ Below w.heap.size w w'

theorem Copied.cell {w w' : World} {ys : List Int} (h : Copied w w' ys) (k : Nat) (hk : k < ys.length) : w'.cell? ⟨w.heap.size, k, none⟩ = some (.int .u8 (ys.getD k 0)) := by
  rw [h.1.cellAt k (by omega)]
  simp [hk]

theorem clone_nil (w : World) : Calls Try.prog 10 #[.slice none 0 0] w fun e w' => e = .returned (.slice none 0 0) ∧ w' = w := by
  have hnil := fun w => Lib.run_eql_slice_nil (P := Try.prog) w 22 5 none 0 0 0 0 Try.underlying22
  go_enter Try.func10, Try.ntmps10
  go_wp2
  go_ret
  exact ⟨rfl, rfl⟩

set_option maxHeartbeats 1000000 in
theorem clone_empty (x : Addr) (cap : Nat) (w : World) :
    Calls Try.prog 10 #[.slice (some x) 0 cap] w fun e w' => e = .returned (.slice (some ⟨w.heap.size, 0, none⟩) 0 0) ∧ Copied w w' [] := by
  obtain ⟨i0, hi, hz0, hz1, hz2⟩ := info_parts Try.inf5
  have hnil := fun w => Lib.run_eql_slice_nil (P := Try.prog) w 22 5 (some x) 0 cap 0 0 Try.underlying22
  go_enter Try.func10, Try.ntmps10
  go_wp2_with (at_make; refine wpList_make_full _ rfl _ _ 22 rfl w.heap.size 5 i0 (.int .u8 0) 1 Try.underlying22 hi hz0 hz1 _ _ _ _ 0 rfl rfl rfl rfl ?b1 ?b2 (Nat.le_refl _) ?_)
  case b1 => rw [hz2]; decide
  case b2 => decide
  intro w0 ho hg
  have H0 : Hid (Copied w w0 []) := ⟨by simpa [toList_madeCells_one] using ho, (Below.refl _ _).grown hg (Nat.le_refl _) (by rintro q ⟨⟩)⟩
  clear ho hg
  go_wp2
  refine wp_loop_rounds 1 ?_
  rw [rounds_succ]
  go_wp2
  go_ret
  exact ⟨rfl, H0.out⟩

set_option maxHeartbeats 1000000 in
theorem clone_some (b off len cap : Nat) (ys : List Int) (w : World) (hy : ys.length = len) (hl : len ≤ 1048576) (hc : ∀ k, k < len → w.cell? ⟨b, off + k, none⟩ = some (.int .u8 (ys.getD k 0))) :
    Calls Try.prog 10 #[.slice (some ⟨b, off, none⟩) len cap] w fun e w' => e = .returned (.slice (some ⟨w.heap.size, 0, none⟩) len len) ∧ Copied w w' ys := by
  obtain ⟨i0, hi, hz0, hz1, hz2⟩ := info_parts Try.inf5
  have hnil := fun w => Lib.run_eql_slice_nil (P := Try.prog) w 22 5 (some ⟨b, off, none⟩) len cap 0 0 Try.underlying22
  have hbw : 0 < len → b < w.heap.size := fun h => World.block_lt_of_cell? w ⟨b, off + 0, none⟩ (hc 0 h)
  have HC : Hid (∀ k, k < len → w.cell? ⟨b, off + k, none⟩ = some (.int .u8 (ys.getD k 0))) := hc
  have HY : Hid (ys.length = len) := hy
  have HB : Hid (0 < len → b < w.heap.size) := hbw
  clear hc hy hbw
  go_enter Try.func10, Try.ntmps10
  go_wp2_with (at_make; refine wpList_make_full _ rfl _ _ 22 rfl w.heap.size 5 i0 (.int .u8 0) 1 Try.underlying22 hi hz0 hz1 _ _ _ _ len rfl rfl rfl rfl ?b1 ?b2 (Nat.le_refl _) ?_)
  case b1 => rw [hz2]; omega
  case b2 => unfold maxLen; omega
  intro w0 ho hg
  have H0 : Hid (w0.ownsRow w.heap.size 5 1 (.slice (some ⟨w.heap.size, 0, none⟩) len len) len ((half ys 0).map (Value.int .u8)) ∧ Below w.heap.size w w0) := by
    refine ⟨?_, (Below.refl _ _).grown hg (Nat.le_refl _) (by rintro q ⟨⟩)⟩
    rw [half_zero, HY.out]
    simpa [toList_madeCells_one] using ho
  clear ho hg hnil
  go_wp2
  go_loopw [4] (fun i wr => ∃ k : Nat, k ≤ len ∧ i = .int .i64 k ∧ Hid (wr.ownsRow w.heap.size 5 1 (.slice (some ⟨w.heap.size, 0, none⟩) len len) len ((half ys k).map (Value.int .u8)) ∧ Below w.heap.size w wr)) (fun i _ => len - (intOf i).toNat)
  case atStart => exact ⟨0, Nat.zero_le _, rfl, H0⟩
  case round =>
    obtain ⟨k, hk, rfl, HR⟩ := hrel
    clear H0
    by_cases hlt : k < len
    · have hsrc : wr.cell? ⟨b, off + k, none⟩ = some (.int .u8 (ys.getD k 0)) := (HR.out.2.cell (p := ⟨b, off + k, none⟩) (HB.out (by omega))).trans (HC.out k hlt)
      have hdst : wr.cell? ⟨w.heap.size, k, none⟩ = some (.int .u8 ((half ys k).getD k 0)) := by
        rw [HR.out.1.cellAt k (by omega)]
        have : k < (half ys k).length := by rw [half_len _ _ (by rw [HY.out]; exact hk), HY.out]; exact hlt
        simp [this]
      have hfz : wr.frozen? ⟨w.heap.size, k, none⟩ = false := HR.out.1.frozenAt k
      have HN : Hid ((wr.setCell ⟨w.heap.size, k, none⟩ (.int .u8 (ys.getD k 0))).ownsRow w.heap.size 5 1 (.slice (some ⟨w.heap.size, 0, none⟩) len len) len ((half ys (k + 1)).map (Value.int .u8)) ∧
          Below w.heap.size w (wr.setCell ⟨w.heap.size, k, none⟩ (.int .u8 (ys.getD k 0)))) := by
        refine ⟨?_, HR.out.2.setCell (Nat.le_refl _) _⟩
        have := (HR.out.1.stored k (.int .u8 (ys.getD k 0))).1
        rw [← half_set ys k (by rw [HY.out]; exact hlt), List.map_set]
        exact this
      obtain ⟨c, hcc⟩ : ∃ c, ys.getD k 0 = c := ⟨_, rfl⟩
      obtain ⟨d, hdd⟩ : ∃ d, (half ys k).getD k 0 = d := ⟨_, rfl⟩
      rw [hcc] at hsrc HN
      rw [hdd] at hdst
      clear hcc hdd
      go_wp2
      go_roundw
      case rel => exact ⟨k + 1, by omega, by go_num, HN⟩
      case measure => simp [intOf]; omega
    · have hke : k = len := by omega
      have HF : Hid (Copied w wr ys) := by
        have h1 := HR.out
        rw [hke, ← HY.out, half_all] at h1
        exact h1
      clear hke
      go_wp2
      go_ret
      exact ⟨rfl, HF.out⟩
end Go.Proofs.Qxb6602886a
