/-
  THE WALKS OF slices.Index, slices.Contains, slices.Equal, cloneStrings, the byte guards.
-/
import Derived.Test.Qxb6602993aRows
import Derived.Test.Qxb6602993aColP
import Derived.WalkLawsBesides
import Derived.WalkSpells
import Derived.ProofKit
import Derived.Deep.QuietTactic
import Derived.BigQuiet
import Derived.Deep.LoopGhost
namespace Go.Proofs.Qxb6602993a
open Go.RowKit

/-- A slice's address and the strings that lie there; an empty one may lie anywhere. -/
def Row (w : World) (ao : Option Addr) (ss : List ByteArray) : Prop :=
  ss = [] ∨ ∃ b off, ao = some ⟨b, off, none⟩ ∧ ∀ j, j < ss.length → w.cell? ⟨b, off + j, none⟩ = some (.string (ss.getD j ByteArray.empty))

theorem Row.drewN {w : World} {ao : Option Addr} {ss : List ByteArray} (h : Row w ao ss) (n : Nat) : Row (w.drewN n) ao ss := h

theorem ret_int {k : IntKind} {a b : Int} (h : a = b) : Ending.returned (.int k a) = .returned (.int k b) := by rw [h]
theorem ret_bool {a b : Bool} (h : a = b) : Ending.returned (.bool a) = .returned (.bool b) := by rw [h]

set_option maxHeartbeats 1000000 in
theorem index_any (ao : Option Addr) (n c : Nat) (ss : List ByteArray) (x : ByteArray) (w : World) (hn : ss.length = n) (hm : n ≤ 1048576) (hr : Row w ao ss) :
    Calls Try.prog 28 #[.slice ao n c, .string x] w fun e w' => e = .returned (.int .i64 (idx x.toList (bs ss))) ∧ w' = w := by
  have HR : Hid (Row w ao ss) := hr
  have HN : Hid (ss.length = n) := hn
  clear hr hn
  go_enter Try.func28, Try.ntmps28
  go_wp2
  go_loop [8] (fun i => ∃ k : Nat, k ≤ n ∧ i = .int .i64 k ∧ Hid (fi x.toList (bs ss) = k + fi x.toList ((bs ss).drop k))) (fun i => n - (intOf i).toNat)
  case atStart => exact ⟨0, Nat.zero_le _, rfl, by show _ = _; simp⟩
  case round =>
    obtain ⟨k, hk, rfl, HF⟩ := hrel
    by_cases hlt : k < n
    · rcases HR.out with hh | ⟨b, off, rfl, hc⟩
      · have := HN.out; rw [hh] at this; simp at this; omega
      · have hkl : k < ss.length := by have := HN.out; omega
        have hck := hc k hkl
        clear hc
        obtain ⟨y, hy⟩ : ∃ y, ss.getD k ByteArray.empty = y := ⟨_, rfl⟩
        have HY : Hid ((bs ss).getD k [] = y.toList ∧ k < (bs ss).length) := ⟨bs_at hkl hy, by rw [bs_len]; exact hkl⟩
        rw [hy] at hck
        clear hy hkl
        by_cases hxy : y.toList = x.toList
        · have hb : (x.toList == y.toList) = true := by simp [hxy]
          have HE : Hid (idx x.toList (bs ss) = k) := by
            have h1 := fi_hit HY.out.2 (HY.out.1.trans hxy)
            have h2 := HF.out
            rw [h1] at h2
            show _ = _
            have h3 := HY.out.2
            unfold idx
            rw [if_pos (by omega)]; omega
          clear hxy
          go_wp2
          go_ret
          exact ⟨ret_int HE.out.symm, rfl⟩
        · have hb : (x.toList == y.toList) = false := by rw [beq_eq_false_iff_ne]; exact fun h => hxy h.symm
          have HE : Hid (fi x.toList (bs ss) = (k + 1 : Nat) + fi x.toList ((bs ss).drop (k + 1))) := by
            have h1 := fi_miss HY.out.2 (x := x.toList) (by rw [HY.out.1]; exact hxy)
            show _ = _
            rw [HF.out, h1]; omega
          clear hxy
          go_wp2
          go_round
          case rel => exact ⟨k + 1, by omega, by go_num, HE⟩
          case measure => simp [intOf]; omega
    · have HE : Hid (idx x.toList (bs ss) = -1) := by
        have h1 := fi_end (x := x.toList) (l := bs ss) (k := k) (by rw [bs_len, HN.out]; omega)
        have h2 := HF.out
        show _ = _
        unfold idx
        rw [if_neg (by rw [bs_len, HN.out, h2, h1]; omega)]
      go_wp2
      go_ret
      exact ⟨ret_int HE.out.symm, rfl⟩

theorem idx_rng (x : List UInt8) (l : List (List UInt8)) : -1 ≤ idx x l ∧ idx x l ≤ l.length := by
  unfold idx; have := fi_le x l; split <;> omega

theorem contains_any (ao : Option Addr) (n c : Nat) (ss : List ByteArray) (x : ByteArray) (w : World) (hn : ss.length = n) (hm : n ≤ 1048576) (hr : Row w ao ss) :
    Calls Try.prog 29 #[.slice ao n c, .string x] w fun e w' => e = .returned (.bool (decide (fi x.toList (bs ss) < (bs ss).length))) ∧ w' = w := by
  have H : Hid (Calls Try.prog 28 #[.slice ao n c, .string x] w fun e w' => e = .returned (.int .i64 (idx x.toList (bs ss))) ∧ w' = w) := index_any ao n c ss x w hn hm hr
  clear hr hm
  by_cases h : fi x.toList (bs ss) < (bs ss).length
  · have e1 : idx x.toList (bs ss) = (fi x.toList (bs ss) : Nat) := by unfold idx; rw [if_pos h]
    rw [decide_eq_true h]
    obtain ⟨q, hq⟩ : ∃ q, fi x.toList (bs ss) = q := ⟨_, rfl⟩
    rw [e1, hq] at H
    clear e1 hq h hn
    go_enter Try.func29, Try.ntmps29
    go_wp2_with (go_at_call 28; refine H.out.mono ?_; rintro e w' ⟨rfl, rfl⟩)
    go_ret
    exact ⟨ret_bool (by simp), rfl⟩
  · have e1 : idx x.toList (bs ss) = -1 := by unfold idx; rw [if_neg h]
    rw [decide_eq_false h]
    rw [e1] at H
    clear e1 h hn
    go_enter Try.func29, Try.ntmps29
    go_wp2_with (go_at_call 28; refine H.out.mono ?_; rintro e w' ⟨rfl, rfl⟩)
    go_ret
    exact ⟨ret_bool (by simp), rfl⟩

/-- slices.Equal at two slices of one length: the bool tells whether all are equal. -/
def EqTo (S T : List (List UInt8)) (k : Nat) : Prop := ∀ i, i < k → S.getD i [] = T.getD i []

set_option maxHeartbeats 1000000 in
theorem equal_any (ao ao' : Option Addr) (n c c' : Nat) (ss tt : List ByteArray) (w : World) (hn : ss.length = n) (hn' : tt.length = n) (hm : n ≤ 1048576) (hr : Row w ao ss) (hr' : Row w ao' tt) :
    Calls Try.prog 27 #[.slice ao n c, .slice ao' n c'] w fun e w' => ∃ v : Bool, e = .returned (.bool v) ∧ (v = true ↔ EqTo (bs ss) (bs tt) n) ∧ ∃ m, w' = w.drewN m := by
  have HR : Hid (Row w ao ss) := hr
  have HR' : Hid (Row w ao' tt) := hr'
  have HN : Hid (ss.length = n ∧ tt.length = n) := ⟨hn, hn'⟩
  clear hr hn hr' hn'
  go_enter Try.func27, Try.ntmps27
  go_wp2
  go_loopw [13] (fun i wr => ∃ k : Nat, k ≤ n ∧ i = .int .i64 k ∧ Hid (EqTo (bs ss) (bs tt) k) ∧ ∃ m, wr = w.drewN m) (fun i _ => n - (intOf i).toNat)
  case atStart => exact ⟨0, Nat.zero_le _, rfl, fun i hi => by omega, 0, rfl⟩
  case round =>
    obtain ⟨k, hk, rfl, HE, m, rfl⟩ := hrel
    by_cases hlt : k < n
    · rcases HR.out with hh | ⟨b, off, rfl, hc⟩
      · have := HN.out.1; rw [hh] at this; simp at this; omega
      rcases HR'.out with hh | ⟨b', off', rfl, hc'⟩
      · have := HN.out.2; rw [hh] at this; simp at this; omega
      · have hk1 : k < ss.length := by have := HN.out; omega
        have hk2 : k < tt.length := by have := HN.out; omega
        have hck := hc k hk1
        have hck' := hc' k hk2
        clear hc hc'
        obtain ⟨y, hy⟩ : ∃ y, ss.getD k ByteArray.empty = y := ⟨_, rfl⟩
        obtain ⟨y', hy'⟩ : ∃ y, tt.getD k ByteArray.empty = y := ⟨_, rfl⟩
        have HY : Hid ((bs ss).getD k [] = y.toList ∧ (bs tt).getD k [] = y'.toList) := ⟨bs_at hk1 hy, bs_at hk2 hy'⟩
        rw [hy] at hck
        rw [hy'] at hck'
        clear hy hy' hk1 hk2
        have hki : (k : Int) < (n : Int) := by omega
        by_cases hxy : y.toList = y'.toList
        · have hb : (y.toList == y'.toList) = true := by simp [hxy]
          have HS : Hid (EqTo (bs ss) (bs tt) (k + 1)) := by
            intro i hi
            by_cases hik : i < k
            · exact HE.out i hik
            · have : i = k := by omega
              subst this
              rw [HY.out.1, HY.out.2, hxy]
          clear hxy
          go_wp2
          go_quiet (fail)
          go_wp2
          go_roundw
          case rel => exact ⟨k + 1, by omega, by go_num, HS, _, rfl⟩
          case measure => simp [intOf]; omega
        · have hb : (y.toList == y'.toList) = false := by rw [beq_eq_false_iff_ne]; exact hxy
          have HF : Hid (¬ EqTo (bs ss) (bs tt) n) := fun h => hxy (by have := h k hlt; rwa [HY.out.1, HY.out.2] at this)
          clear hxy
          go_wp2
          go_quiet (fail)
          go_wp2
          go_ret
          exact ⟨false, rfl, iff_of_false (by decide) HF.out, m + nq, by rw [World.drewN_drewN]⟩
    · have HF : Hid (EqTo (bs ss) (bs tt) n) := by
        have : k = n := by omega
        rw [← this]; exact HE.out
      go_wp2
      go_ret
      exact ⟨true, rfl, iff_of_true rfl HF.out, m, rfl⟩

theorem Try.inf9 : (Try.prog.info? 9).map (fun i => (i.zero, i.size, i.bytes)) = some (some (.string ByteArray.empty), 1, 16) := by kernel_rfl

/-- What the copy holds after k rounds. -/
def half (ys : List ByteArray) (k : Nat) : List ByteArray := ys.take k ++ List.replicate (ys.length - k) ByteArray.empty

theorem half_zero (ys : List ByteArray) : (half ys 0).map Value.string = List.replicate ys.length (Value.string ByteArray.empty) := by simp [half]
theorem half_all (ys : List ByteArray) : half ys ys.length = ys := by simp [half]
theorem half_len (ys : List ByteArray) (k : Nat) (h : k ≤ ys.length) : (half ys k).length = ys.length := by simp [half]; omega
theorem half_set (ys : List ByteArray) (k : Nat) (h : k < ys.length) : (half ys k).set k (ys.getD k ByteArray.empty) = half ys (k + 1) := by
  apply List.ext_getElem?
  intro j
  rw [List.getElem?_set]
  unfold half
  by_cases hj : k = j
  · subst hj
    rw [if_pos rfl, if_pos (by simp; omega)]
    rw [List.getElem?_append_left (by simp; omega)]
    simp [List.getD]
    rw [List.getElem?_eq_getElem h]; rfl
  · rw [if_neg hj]
    by_cases hlt : j < k
    · rw [List.getElem?_append_left (by simp; omega), List.getElem?_append_left (by simp; omega)]
      simp [hlt, show j < k + 1 by omega]
    · rw [List.getElem?_append_right (by simp; omega), List.getElem?_append_right (by simp; omega)]
      simp only [List.length_take, List.getElem?_replicate]
      have e1 : min k ys.length = k := by omega
      have e2 : min (k + 1) ys.length = k + 1 := by omega
      rw [e1, e2]
      by_cases hin : j < ys.length
      · rw [if_pos (by omega), if_pos (by omega)]
      · rw [if_neg (by omega), if_neg (by omega)]

/-- The copy, as the callers ask it. -/
def Copied (w w' : World) (ys : List ByteArray) : Prop :=
  w'.ownsRow w.heap.size 9 1 (.slice (some ⟨w.heap.size, 0, none⟩) ys.length ys.length) ys.length (ys.map Value.string) ∧ Below w.heap.size w w' ∧ w.heap.size < w'.heap.size

theorem Copied.cell {w w' : World} {ys : List ByteArray} (h : Copied w w' ys) (k : Nat) (hk : k < ys.length) : w'.cell? ⟨w.heap.size, k, none⟩ = some (.string (ys.getD k ByteArray.empty)) := by
  rw [h.1.cellAt k (by omega)]
  simp [hk]

theorem own_lt {w : World} {B g n c : Nat} {xs : List Value} (h : w.ownsRow B 9 1 (.slice (some ⟨g, 0, none⟩) n c) n xs) : g < w.heap.size := by
  obtain ⟨_, h | ⟨g', c', cur, e, _, hh, _⟩⟩ := h
  · cases h.1
  · simp at e
    obtain ⟨rfl, rfl⟩ := e
    by_cases hlt : g < w.heap.size
    · exact hlt
    · rw [Array.getElem?_eq_none (by omega)] at hh; cases hh

theorem clone_nil (w : World) : Calls Try.prog 18 #[.slice none 0 0] w fun e w' => e = .returned (.slice none 0 0) ∧ w = w' := by
  have hnil := fun w => Lib.run_eql_slice_nil (P := Try.prog) w 30 9 none 0 0 0 0 Try.underlying30
  go_enter Try.func18, Try.ntmps18
  go_wp2
  go_ret
  exact ⟨rfl, rfl⟩

set_option maxHeartbeats 1000000 in
theorem clone_some (x : Addr) (len cap : Nat) (ys : List ByteArray) (w : World) (hy : ys.length = len) (hl : len ≤ 1048576) (hr : Row w (some x) ys) :
    Calls Try.prog 18 #[.slice (some x) len cap] w fun e w' => e = .returned (.slice (some ⟨w.heap.size, 0, none⟩) len len) ∧ Copied w w' ys := by
  obtain ⟨i0, hi, hz0, hz1, hz2⟩ := info_parts Try.inf9
  have hnil := fun w => Lib.run_eql_slice_nil (P := Try.prog) w 30 9 (some x) len cap 0 0 Try.underlying30
  have HR : Hid (Row w (some x) ys) := hr
  have HY : Hid (ys.length = len) := hy
  clear hr hy
  go_enter Try.func18, Try.ntmps18
  go_wp2_with (at_make; refine wpList_make_full _ rfl _ _ 30 rfl w.heap.size 9 i0 (.string ByteArray.empty) 1 Try.underlying30 hi hz0 hz1 _ _ _ _ len rfl rfl rfl rfl ?b1 ?b2 (Nat.le_refl _) ?_)
  case b1 => rw [hz2]; omega
  case b2 => unfold maxLen; omega
  intro w0 ho hg
  have H0 : Hid (w0.ownsRow w.heap.size 9 1 (.slice (some ⟨w.heap.size, 0, none⟩) len len) len ((half ys 0).map Value.string) ∧ Below w.heap.size w w0) := by
    refine ⟨?_, (Below.refl _ _).grown hg (Nat.le_refl _) (by rintro q ⟨⟩)⟩
    rw [half_zero, HY.out]
    simpa [toList_madeCells_one] using ho
  clear ho hg hnil
  go_wp2
  go_loopw [4] (fun i wr => ∃ k : Nat, k ≤ len ∧ i = .int .i64 k ∧ Hid (wr.ownsRow w.heap.size 9 1 (.slice (some ⟨w.heap.size, 0, none⟩) len len) len ((half ys k).map Value.string) ∧ Below w.heap.size w wr)) (fun i _ => len - (intOf i).toNat)
  case atStart => exact ⟨0, Nat.zero_le _, rfl, H0⟩
  case round =>
    obtain ⟨k, hk, rfl, HRR⟩ := hrel
    clear H0
    by_cases hlt : k < len
    · rcases HR.out with hh | ⟨b, off, hx, hc⟩
      · have := HY.out; rw [hh] at this; simp at this; omega
      obtain rfl : x = ⟨b, off, none⟩ := by simpa using hx
      have hcc := hc k (by have := HY.out; omega)
      have hbl : b < w.heap.size := World.block_lt_of_cell? w ⟨b, off + k, none⟩ hcc
      have hsrc : wr.cell? ⟨b, off + k, none⟩ = some (.string (ys.getD k ByteArray.empty)) := (HRR.out.2.cell (p := ⟨b, off + k, none⟩) hbl).trans hcc
      have hdst : wr.cell? ⟨w.heap.size, k, none⟩ = some (.string ((half ys k).getD k ByteArray.empty)) := by
        rw [HRR.out.1.cellAt k (by omega)]
        have : k < (half ys k).length := by rw [half_len _ _ (by rw [HY.out]; exact hk), HY.out]; exact hlt
        simp [this]
      have hfz : wr.frozen? ⟨w.heap.size, k, none⟩ = false := HRR.out.1.frozenAt k
      have HN : Hid ((wr.setCell ⟨w.heap.size, k, none⟩ (.string (ys.getD k ByteArray.empty))).ownsRow w.heap.size 9 1 (.slice (some ⟨w.heap.size, 0, none⟩) len len) len ((half ys (k + 1)).map Value.string) ∧
          Below w.heap.size w (wr.setCell ⟨w.heap.size, k, none⟩ (.string (ys.getD k ByteArray.empty)))) := by
        refine ⟨?_, HRR.out.2.setCell (Nat.le_refl _) _⟩
        have := (HRR.out.1.stored k (.string (ys.getD k ByteArray.empty))).1
        rw [← half_set ys k (by rw [HY.out]; exact hlt), List.map_set]
        exact this
      obtain ⟨c, hcc2⟩ : ∃ c, ys.getD k ByteArray.empty = c := ⟨_, rfl⟩
      obtain ⟨d, hdd⟩ : ∃ d, (half ys k).getD k ByteArray.empty = d := ⟨_, rfl⟩
      rw [hcc2] at hsrc HN
      rw [hdd] at hdst
      clear hcc hcc2 hdd hc hx hbl
      go_wp2
      go_roundw
      case rel => exact ⟨k + 1, by omega, by go_num, HN⟩
      case measure => simp [intOf]; omega
    · have hke : k = len := by omega
      have HF : Hid (Copied w wr ys) := by
        have h1 := HRR.out
        rw [hke, ← HY.out, half_all] at h1
        exact ⟨h1.1, h1.2, own_lt h1.1⟩
      clear hke
      go_wp2
      go_ret
      exact ⟨rfl, HF.out⟩
end Go.Proofs.Qxb6602993a
