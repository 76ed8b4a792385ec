/-
  THE WALKS OF THE READER: fail, digits, skipNumber, ZZSkipNumber.
-/
import Derived.Test.Qxb6602886aRows
import Derived.Test.Qxb6602886aNumP
import Derived.WalkLawsBesides
import Derived.WalkSpells
import Derived.ProofKit
import Derived.Deep.QuietTactic
import Derived.BigQuiet
import Derived.Deep.LoopGhost
namespace Go.Proofs.Qxb6602886a
open Go.RowKit

/-- What lies in memory while the reader runs: the bytes (block B), the reader (block R), the box of its pointer (block X), the place j (block J). -/
structure Mem (B R X J : Nat) (ys : List Int) (i : Int) (bad : Bool) (j : Int) (w : World) : Prop where
  hB : B < R
  hR : R < X
  hX : X < J
  bytes : ∀ k, k < ys.length → w.cell? ⟨B, k, none⟩ = some (.int .u8 (ys.getD k 0))
  r0 : w.cell? ⟨R, 0, none⟩ = some (.slice (some ⟨B, 0, none⟩) ys.length ys.length)
  r1 : w.cell? ⟨R, 1, none⟩ = some (.int .i64 i)
  r2 : w.cell? ⟨R, 2, none⟩ = some (.bool bad)
  x : w.cell? ⟨X, 0, none⟩ = some (.pointer (some ⟨R, 0, none⟩))
  jc : w.cell? ⟨J, 0, none⟩ = some (.int .i64 j)
  rf : ∀ o, w.frozen? ⟨R, o, none⟩ = false
  jf : w.frozen? ⟨J, 0, none⟩ = false

theorem Mem.drewN {B R X J : Nat} {ys : List Int} {i : Int} {bad : Bool} {j : Int} {w : World} (h : Mem B R X J ys i bad j w) (n : Nat) : Mem B R X J ys i bad j (w.drewN n) :=
  ⟨h.hB, h.hR, h.hX, h.bytes, h.r0, h.r1, h.r2, h.x, h.jc, h.rf, h.jf⟩

theorem farB {w : World} {b o b' o' : Nat} {v : Value} (h : b ≠ b') : (w.setCell ⟨b, o, none⟩ v).cell? ⟨b', o', none⟩ = w.cell? ⟨b', o', none⟩ := World.cell?_setCell_other _ _ _ _ (by simp)
theorem farO {w : World} {b o b' o' : Nat} {v : Value} (h : o ≠ o') : (w.setCell ⟨b, o, none⟩ v).cell? ⟨b', o', none⟩ = w.cell? ⟨b', o', none⟩ := World.cell?_setCell_other _ _ _ _ (by simp)

theorem Mem.setJ {B R X J : Nat} {ys : List Int} {i : Int} {bad : Bool} {j : Int} {w : World} (h : Mem B R X J ys i bad j w) (j' : Int) : Mem B R X J ys i bad j' (w.setCell ⟨J, 0, none⟩ (.int .i64 j')) := by
  have := h.hB; have := h.hR; have := h.hX
  refine ⟨h.hB, h.hR, h.hX, fun k hk => ?_, ?_, ?_, ?_, ?_, World.cell?_setCell_same _ _ _ h.jc, fun o => ?_, ?_⟩
  · rw [farB (by omega)]; exact h.bytes k hk
  · rw [farB (by omega)]; exact h.r0
  · rw [farB (by omega)]; exact h.r1
  · rw [farB (by omega)]; exact h.r2
  · rw [farB (by omega)]; exact h.x
  · simpa using h.rf o
  · simpa using h.jf

/-- What 'fail' leaves. -/
theorem Mem.setFail {B R X J : Nat} {ys : List Int} {i : Int} {bad : Bool} {j : Int} {w : World} (h : Mem B R X J ys i bad j w) (i' : Int) (bad' : Bool) :
    Mem B R X J ys i' bad' j ((w.setCell ⟨R, 2, none⟩ (.bool bad')).setCell ⟨R, 1, none⟩ (.int .i64 i')) := by
  have := h.hB; have := h.hR; have := h.hX
  refine ⟨h.hB, h.hR, h.hX, fun k hk => ?_, ?_, ?_, ?_, ?_, ?_, fun o => ?_, ?_⟩
  · rw [farB (by omega), farB (by omega)]; exact h.bytes k hk
  · rw [farO (by omega), farO (by omega)]; exact h.r0
  · exact World.cell?_setCell_same _ _ _ ((farO (by omega)).trans h.r1)
  · rw [farO (by omega)]; exact World.cell?_setCell_same _ _ _ h.r2
  · rw [farB (by omega), farB (by omega)]; exact h.x
  · rw [farB (by omega), farB (by omega)]; exact h.jc
  · simpa using h.rf o
  · simpa using h.jf

theorem Mem.setI {B R X J : Nat} {ys : List Int} {i : Int} {bad : Bool} {j : Int} {w : World} (h : Mem B R X J ys i bad j w) (i' : Int) :
    Mem B R X J ys i' bad j (w.setCell ⟨R, 1, none⟩ (.int .i64 i')) := by
  have := h.hB; have := h.hR; have := h.hX
  refine ⟨h.hB, h.hR, h.hX, fun k hk => ?_, ?_, ?_, ?_, ?_, ?_, fun o => ?_, ?_⟩
  · rw [farB (by omega)]; exact h.bytes k hk
  · rw [farO (by omega)]; exact h.r0
  · exact World.cell?_setCell_same _ _ _ h.r1
  · rw [farO (by omega)]; exact h.r2
  · rw [farB (by omega)]; exact h.x
  · rw [farB (by omega)]; exact h.jc
  · simpa using h.rf o
  · simpa using h.jf

theorem dc_hit {ys : List Int} {q : Nat} {c : Int} (hq : q < ys.length) (hc : ys.getD q 0 = c) (h : isD c = true) : dc (ys.drop q) = dc (ys.drop (q + 1)) + 1 := by
  have e : ys[q] = c := by rw [← hc]; simp [List.getD, hq]
  rw [List.drop_eq_getElem_cons hq, dc, e, if_pos h]
theorem dc_miss {ys : List Int} {q : Nat} {c : Int} (hq : q < ys.length) (hc : ys.getD q 0 = c) (h : isD c = false) : dc (ys.drop q) = 0 := by
  have e : ys[q] = c := by rw [← hc]; simp [List.getD, hq]
  rw [List.drop_eq_getElem_cons hq, dc, e, h]; rfl
theorem dc_end {ys : List Int} {q : Nat} (hq : ys.length ≤ q) : dc (ys.drop q) = 0 := by
  rw [List.drop_of_length_le hq]; rfl

theorem ret_num {k : IntKind} {a b : Int} (h : a = b) : Ending.returned (.int k a) = .returned (.int k b) := by rw [h]

set_option maxHeartbeats 2000000 in
theorem digits_any (B R X J : Nat) (ys : List Int) (i : Int) (bad : Bool) (j : Nat) (w : World) (h : Mem B R X J ys i bad j w) (hj : j ≤ ys.length) (hl : ys.length ≤ 1048576) :
    Calls Try.prog 26 #[.pointer (some ⟨J, 0, none⟩), .pointer (some ⟨X, 0, none⟩)] w fun e w' =>
      e = .returned (.int .i64 (dc (ys.drop j) : Nat)) ∧ Mem B R X J ys i bad (j + dc (ys.drop j) : Nat) w' ∧ Below J w w' := by
  have HM : Hid (Mem B R X J ys i bad j w) := h
  have hjc := h.jc
  clear h
  go_enter Try.func26, Try.ntmps26
  go_wp2
  go_loopg [5] (ys.length - j) (fun k _ wr => ∃ n : Nat, j + n + k = ys.length ∧ Hid (dc (ys.drop j) = n + dc (ys.drop (j + n))) ∧ Hid (Mem B R X J ys i bad (j + n : Nat) wr ∧ Below J w wr))
  case atStart => exact ⟨0, by omega, by show _ = _; simp, HM, Below.refl _ _⟩
  case round =>
    obtain ⟨n, hn, HD, HR⟩ := hrel
    clear HM hjc
    have hjc := HR.out.1.jc
    have hxc := HR.out.1.x
    have hr0 := HR.out.1.r0
    have hjf := HR.out.1.jf
    by_cases hlt : j + n < ys.length
    · have hc := HR.out.1.bytes (j + n) hlt
      obtain ⟨c, hcc⟩ : ∃ c, ys.getD (j + n) 0 = c := ⟨_, rfl⟩
      rw [hcc] at hc
      have hi1 : ((j + n : Nat) : Int) < (ys.length : Int) := by omega
      have hi0 : (0 : Int) ≤ ((j + n : Nat) : Int) := by omega
      have HH : Hid (isD c = true → dc (ys.drop (j + n)) = dc (ys.drop (j + n + 1)) + 1) := dc_hit hlt hcc
      have HZ : Hid (isD c = false → dc (ys.drop (j + n)) = 0) := dc_miss hlt hcc
      obtain ⟨q, hq⟩ : ∃ q : Nat, j + n = q := ⟨_, rfl⟩
      have HQ : Hid (j + n = q) := hq
      rw [hq] at hjc hc hi1 hi0
      clear hcc hlt hq
      by_cases h1 : 48 ≤ c
      · by_cases h2 : c ≤ 57
        · have HN : Hid (isD c = true) := by simp [Hid, isD, h1, h2]
          go_wp2
          go_quiet (fail)
          go_wp2
          go_roundg (gk - 1)
          case measure => have := HQ.out; omega
          case rel =>
            refine ⟨n + 1, ?_, ?_, ?_, ?_⟩
            · have := HQ.out; omega
            · show _ = _
              rw [HD.out, HH.out HN.out, show j + (n + 1) = j + n + 1 by omega]; omega
            · have := (HR.out.1.drewN nq).setJ ((j + (n + 1) : Nat) : Int)
              rw [show ((q : Nat) : Int) + 1 = ((j + (n + 1) : Nat) : Int) by have := HQ.out; omega]
              exact this
            · exact (below_drewN HR.out.2 nq).setCell (Nat.le_refl _) _
        · have HF : Hid (dc (ys.drop j) = n) := by
            show _ = _
            rw [HD.out, HZ.out (by simp [isD]; omega)]; omega
          go_wp2
          go_quiet (fail)
          go_wp2
          go_ret
          refine ⟨ret_num (by rw [HF.out]; have := HQ.out; omega), ?_, below_drewN HR.out.2 nq⟩
          rw [HF.out]; exact HR.out.1.drewN nq
      · have HF : Hid (dc (ys.drop j) = n) := by
          show _ = _
          rw [HD.out, HZ.out (by simp [isD]; omega)]; omega
        have hd : decide (48 ≤ c) = false := decide_eq_false h1
        go_wp2
        go_quiet (fail)
        go_wp2
        go_ret
        refine ⟨ret_num (by rw [HF.out]; have := HQ.out; omega), ?_, below_drewN HR.out.2 nq⟩
        rw [HF.out]; exact HR.out.1.drewN nq
    · have HF : Hid (dc (ys.drop j) = n) := by
        show _ = _
        rw [HD.out, dc_end (by omega)]; omega
      obtain ⟨q, hq⟩ : ∃ q : Nat, j + n = q := ⟨_, rfl⟩
      have HQ : Hid (j + n = q) := hq
      rw [hq] at hjc hlt
      clear hq
      have hd : decide ((q : Int) < (ys.length : Int)) = false := decide_eq_false (by omega)
      have hjq : j ≤ q := by have := HQ.out; omega
      have hql : q ≤ ys.length := by have := HQ.out; omega
      go_wp2
      go_quiet (fail)
      go_wp2
      go_ret
      refine ⟨ret_num (by rw [HF.out]; have := HQ.out; omega), ?_, below_drewN HR.out.2 nq⟩
      rw [HF.out]; exact HR.out.1.drewN nq

set_option maxHeartbeats 1000000 in
theorem fail_any (B R X J : Nat) (ys : List Int) (i : Int) (bad : Bool) (j : Int) (w : World) (h : Mem B R X J ys i bad j w) :
    Calls Try.prog 27 #[.pointer (some ⟨R, 0, none⟩)] w fun e w' => e = .returned (.tuple #[]) ∧ Mem B R X J ys ys.length true j w' ∧ Below R w w' := by
  have HM : Hid (Mem B R X J ys i bad j w) := h
  have h0 := h.r0
  have h1 := h.r1
  have h2 := h.r2
  have f1 := h.rf 1
  have f2 := h.rf 2
  clear h
  go_enter Try.func27, Try.ntmps27
  go_wp2
  go_end0
  exact ⟨rfl, HM.out.setFail _ _, Below.setCell (p := ⟨R, 1, none⟩) (Below.setCell (p := ⟨R, 2, none⟩) (Below.refl R w) (Nat.le_refl _) _) (Nat.le_refl _) _⟩
end Go.Proofs.Qxb6602886a
