/-
  THE WALK OF skipNumber, cut at each stage.
-/
import Derived.Test.Qxb6602886aNumA
import Derived.Test.Qxb6602886aNumB
import Derived.Deep.CutRange
import Derived.Deep.DeepCutAuto
namespace Go.Proofs.Qxb6602886a
open Go.RowKit

/-- What stands between two stages: place j; nothing below the reader has turned. -/
def At (B R : Nat) (ys : List Int) (i : Int) (bad : Bool) (w : World) (j : Nat) (w' : World) : Prop :=
  Mem B R w.heap.size (w.heap.size + 1) ys i bad j w' ∧ Below R w w'

def At' (B R : Nat) (ys : List Int) (i : Int) (bad : Bool) (w : World) (j : Int) (w' : World) : Prop :=
  Mem B R w.heap.size (w.heap.size + 1) ys i bad j w' ∧ Below R w w'

theorem start_mem {B R : Nat} {ys : List Int} {i : Nat} {bad : Bool} {w : World} (hBR : B < R) (hR : R < w.heap.size)
    (hbytes : ∀ k, k < ys.length → w.cell? ⟨B, k, none⟩ = some (.int .u8 (ys.getD k 0)))
    (r0 : w.cell? ⟨R, 0, none⟩ = some (.slice (some ⟨B, 0, none⟩) ys.length ys.length)) (r1 : w.cell? ⟨R, 1, none⟩ = some (.int .i64 i)) (r2 : w.cell? ⟨R, 2, none⟩ = some (.bool bad)) (rf : ∀ o, w.frozen? ⟨R, o, none⟩ = false) :
    At B R ys i bad w i ((w.alloc (Obj.cells #[Value.pointer (some { block := R, off := 0 })] 46)).alloc (Obj.cells #[Value.int IntKind.i64 i] 3)) := by
  have hb : Below w.heap.size w ((w.alloc (Obj.cells #[Value.pointer (some { block := R, off := 0 })] 46)).alloc (Obj.cells #[Value.int IntKind.i64 i] 3)) :=
    ((Below.refl _ _).alloc (Nat.le_refl _) _).alloc (by simp) _
  refine ⟨⟨hBR, hR, by omega, fun k hk => ?_, ?_, ?_, ?_, ?_, ?_, fun o => ?_, ?_⟩, hb.mono (by omega)⟩
  · exact (hb.cell (p := ⟨B, k, none⟩) (by simp; omega)).trans (hbytes k hk)
  · exact (hb.cell (p := ⟨R, 0, none⟩) hR).trans r0
  · exact (hb.cell (p := ⟨R, 1, none⟩) hR).trans r1
  · exact (hb.cell (p := ⟨R, 2, none⟩) hR).trans r2
  · simp
  · simp
  · exact (hb.frozen (p := ⟨R, o, none⟩) hR).trans (rf o)
  · simp

set_option maxRecDepth 100000 in
set_option maxHeartbeats 4000000 in
theorem skip_any (B R : Nat) (ys : List Int) (i : Nat) (bad : Bool) (w : World) (hBR : B < R) (hR : R < w.heap.size) (hi : i < ys.length) (hl : ys.length ≤ 1048576)
    (hbytes : ∀ k, k < ys.length → w.cell? ⟨B, k, none⟩ = some (.int .u8 (ys.getD k 0)))
    (r0 : w.cell? ⟨R, 0, none⟩ = some (.slice (some ⟨B, 0, none⟩) ys.length ys.length)) (r1 : w.cell? ⟨R, 1, none⟩ = some (.int .i64 i)) (r2 : w.cell? ⟨R, 2, none⟩ = some (.bool bad)) (rf : ∀ o, w.frozen? ⟨R, o, none⟩ = false) :
    Calls Try.prog 25 #[.pointer (some ⟨R, 0, none⟩)] w fun e w' => e = .returned (.tuple #[]) ∧
      w'.cell? ⟨R, 1, none⟩ = some (.int .i64 (resI (skipP (ys.drop i) i) ys.length)) ∧ w'.cell? ⟨R, 2, none⟩ = some (.bool (resB (skipP (ys.drop i) i) bad)) ∧ Below R w w' := by
  have HS := start_mem hBR hR hbytes r0 r1 r2 rf
  have H0 : Hid (At B R ys i bad w i ((w.alloc (Obj.cells #[Value.pointer (some { block := R, off := 0 })] 46)).alloc (Obj.cells #[Value.int IntKind.i64 i] 3))) := HS
  have hci := hbytes i hi
  have HL1 : Hid (skipP (ys.drop i) i = if ys.getD i 0 = 45 then intPart (ys.drop (i + 1)) (i + 1) else intPart (ys.drop i) i) := L1 hi
  obtain ⟨c, hcc⟩ : ∃ c, ys.getD i 0 = c := ⟨_, rfl⟩
  rw [hcc] at hci HL1
  obtain ⟨O, hO⟩ : ∃ O, skipP (ys.drop i) i = O := ⟨_, rfl⟩
  rw [hO] at HL1 ⊢
  have hi1 : (i : Int) < (ys.length : Int) := by omega
  have hBs : B < w.heap.size := by omega
  clear HS hbytes hcc hO
  go_enter Try.func25, Try.ntmps25
  go_upto_region 2 with fail
  go_quiet (fail)
  go_upto_if 16 with fail
  go_cut [] from 4 (fun w' => ∃ n0 : Nat, n0 ≤ ys.length ∧ Hid (O = intPart (ys.drop n0) n0) ∧ Hid (At B R ys i bad w n0 w'))
  case first =>
    by_cases h45 : c = 45
    · have hb : (c == 45) = true := by simpa using h45
      go_wp2
      go_meet
      case rel => exact ⟨i + 1, by omega, by show _ = _; rw [HL1.out, if_pos h45], (H0.out.1.drewN _).setJ _, (below_drewN H0.out.2 _).setCell (by simp; omega) _⟩
    · have hb : (c == 45) = false := by simpa using h45
      go_wp2
      go_meet
      case rel => exact ⟨i, by omega, by show _ = _; rw [HL1.out, if_neg h45], H0.out.1.drewN _, below_drewN H0.out.2 _⟩
  case rest =>
    obtain ⟨n0, hn0, HO, HA⟩ := hcut
    clear H0 HL1 hci hi1 r0 r1 r2
    have HD : Hid (Calls Try.prog 26 #[.pointer (some ⟨w.heap.size + 1, 0, none⟩), .pointer (some ⟨w.heap.size, 0, none⟩)] wc fun e w' =>
        e = .returned (.int .i64 (dc (ys.drop n0) : Nat)) ∧ Mem B R w.heap.size (w.heap.size + 1) ys i bad (n0 + dc (ys.drop n0) : Nat) w' ∧ Below (w.heap.size + 1) wc w') :=
      digits_any B R _ _ ys i bad n0 wc HA.out.1 hn0 hl
    have hle := dc_drop_le ys n0 hn0
    obtain ⟨d, hd⟩ : ∃ d, dc (ys.drop n0) = d := ⟨_, rfl⟩
    have HDD : Hid (dc (ys.drop n0) = d) := hd
    rw [hd] at HD hle
    clear hd
    obtain ⟨j1, hj1⟩ : ∃ j1, n0 + d = j1 := ⟨_, rfl⟩
    have HJ1 : Hid (n0 + d = j1) := hj1
    rw [hj1] at HD hle
    have hsub : (j1 : Int) - (d : Int) = (n0 : Int) := by omega
    clear hj1
    go_upto_region 6 with (go_at_call 26; refine HD.out.mono ?_; rintro e w2 ⟨rfl, hm2, hb2⟩; have HM2 : Hid (At B R ys i bad w j1 w2) := ⟨hm2, HA.out.2.trans (hb2.mono (by omega))⟩; clear hm2 hb2)
    have hx := HM2.out.1.x
    have hr := HM2.out.1.r0
    have hjc := HM2.out.1.jc
    clear HD HA
    by_cases hd0 : d = 0
    · have hd0b : ((d : Int) == 0) = true := by simpa using hd0
      have HMX := HM2
      have HN : Hid (O = none) := by show _ = _; rw [HO.out, L2a (by rw [HDD.out]; exact hd0)]
      have HFH : Hid (Calls Try.prog 27 #[.pointer (some ⟨R, 0, none⟩)] w2 fun e w' => e = .returned (.tuple #[]) ∧ Mem B R w.heap.size (w.heap.size + 1) ys ys.length true j1 w' ∧ Below R w2 w') := fail_any B R _ _ ys i bad j1 w2 HMX.out.1
      go_wp2_with (go_at_call 27; refine HFH.out.mono ?_; rintro e wf ⟨rfl, hmf, hbf⟩; have HMF : Hid (At' B R ys ys.length true w j1 wf) := ⟨hmf, HMX.out.2.trans hbf⟩; clear hmf hbf)
      refine bodyPost_ret (results_none Try.results25 _ _ _) rfl ?_
      refine ⟨rfl, ?_, ?_, HMF.out.2⟩
      · rw [HN.out]; exact HMF.out.1.r1
      · rw [HN.out]; exact HMF.out.1.r2
    · have hd0b : ((d : Int) == 0) = false := by simpa using hd0
      go_upto_region 7 with fail
      go_cut [22] from 23 (fun s w' => s = .bool (decide (1 < d) && (ys.getD n0 0 == 48)) ∧ Hid (At B R ys i bad w j1 w'))
      case first =>
        have hn0l : n0 < ys.length := dc_pos_lt (by rw [HDD.out]; exact hd0)
        have hcn := HM2.out.1.bytes n0 hn0l
        obtain ⟨c0, hc0⟩ : ∃ c0, ys.getD n0 0 = c0 := ⟨_, rfl⟩
        rw [hc0] at hcn
        have HC0 : Hid (ys.getD n0 0 = c0) := hc0
        clear hc0
        have hin : (n0 : Int) < (ys.length : Int) := by omega
        by_cases h1 : 1 < d
        · have h1i : (1 : Int) < (d : Int) := by omega
          go_quiet (fail)
          go_wp2
          go_meet
          case rel => exact ⟨by rw [HC0.out, decide_eq_true h1]; rfl, HM2.out.1.drewN _, below_drewN HM2.out.2 _⟩
        · have h1b : decide ((1 : Int) < (d : Int)) = false := decide_eq_false (by omega)
          go_quiet (fail)
          go_wp2
          go_meet
          case rel => exact ⟨by rw [decide_eq_false h1]; rfl, HM2.out.1.drewN _, below_drewN HM2.out.2 _⟩
      case rest =>
        obtain ⟨rfl, HM3⟩ := hcut
        clear hx hr hjc
        have hx := HM3.out.1.x
        have hr := HM3.out.1.r0
        have hjc := HM3.out.1.jc
        have hjf := HM3.out.1.jf
        cases htest : (decide (1 < d) && (ys.getD n0 0 == 48)) with
        | true =>
          have HT : Hid (1 < d ∧ ys.getD n0 0 = 48) := by simp only [Bool.and_eq_true, decide_eq_true_eq, beq_iff_eq] at htest; exact htest
          clear htest
          have HN : Hid (O = none) := by show _ = _; rw [HO.out, L2b (by rw [HDD.out]; exact HT.out.1) HT.out.2]
          have HFH : Hid (Calls Try.prog 27 #[.pointer (some ⟨R, 0, none⟩)] wc fun e w' => e = .returned (.tuple #[]) ∧ Mem B R w.heap.size (w.heap.size + 1) ys ys.length true j1 w' ∧ Below R wc w') := fail_any B R _ _ ys i bad j1 wc HM3.out.1
          go_wp2_with (go_at_call 27; refine HFH.out.mono ?_; rintro e wf ⟨rfl, hmf, hbf⟩; have HMF : Hid (At' B R ys ys.length true w j1 wf) := ⟨hmf, HM3.out.2.trans hbf⟩; clear hmf hbf)
          refine bodyPost_ret (results_none Try.results25 _ _ _) rfl ?_
          refine ⟨rfl, ?_, ?_, HMF.out.2⟩
          · rw [HN.out]; exact HMF.out.1.r1
          · rw [HN.out]; exact HMF.out.1.r2
        | false =>
          have HO2 : Hid (O = fracPart (ys.drop j1) j1) := by
            have h1 : ¬ (1 < dc (ys.drop n0) ∧ ys.getD n0 0 = 48) := by
              intro hh
              rw [HDD.out] at hh
              rw [decide_eq_true hh.1, hh.2] at htest
              simp at htest
            have h2 := L2c (by rw [HDD.out]; exact hd0) h1
            rw [HDD.out, HJ1.out] at h2
            show _ = _
            rw [HO.out, h2]
          clear htest
          go_upto_region 9 with fail
          clear hsub hd0 hd0b HDD HJ1 HO hn0 HM2
          go_cut [57] from 4 (fun s w' => s = .bool (dotB ys j1) ∧ Hid (At B R ys i bad w j1 w'))
          case first =>
            by_cases hlt : j1 < ys.length
            · have hcj := HM3.out.1.bytes j1 hlt
              obtain ⟨c1, hc1⟩ : ∃ c1, ys.getD j1 0 = c1 := ⟨_, rfl⟩
              rw [hc1] at hcj
              have HB : Hid (dotB ys j1 = (c1 == 46)) := by show _ = _; unfold dotB; rw [decide_eq_true hlt, hc1, Bool.true_and]
              clear hc1
              have hin : (j1 : Int) < (ys.length : Int) := by omega
              go_quiet (fail)
              go_wp2
              go_meet
              case rel => exact ⟨by rw [HB.out], HM3.out.1.drewN _, below_drewN HM3.out.2 _⟩
            · have HB : Hid (dotB ys j1 = false) := by show _ = _; unfold dotB; rw [decide_eq_false hlt, Bool.false_and]
              have hin : decide ((j1 : Int) < (ys.length : Int)) = false := decide_eq_false (by omega)
              go_quiet (fail)
              go_wp2
              go_meet
              case rel => exact ⟨by rw [HB.out], HM3.out.1.drewN _, below_drewN HM3.out.2 _⟩
          case rest =>
            obtain ⟨rfl, HM4⟩ := hcut
            clear hx hr hjc hjf HM3
            have hx := HM4.out.1.x
            have hr := HM4.out.1.r0
            have hjc := HM4.out.1.jc
            have hjf := HM4.out.1.jf
            go_upto_if 57 with fail
            go_cut [] from 4 (fun w' => ∃ j3 : Nat, j3 ≤ ys.length ∧ Hid (O = expPart (ys.drop j3) j3) ∧ Hid (At B R ys i bad w j3 w'))
            case first =>
              cases hdot : dotB ys j1 with
              | false =>
                have HE : Hid (O = expPart (ys.drop j1) j1) := by show _ = _; rw [HO2.out, L3n hdot]
                go_wp2
                go_meet
                case rel => exact ⟨j1, hle, HE, HM4.out⟩
              | true =>
                have hlt := (dotB_lt hdot).1
                have HA5 : Hid (At B R ys i bad w (j1 + 1) (wc.setCell ⟨w.heap.size + 1, 0, none⟩ (.int .i64 ((j1 : Int) + 1)))) :=
                  ⟨HM4.out.1.setJ _, HM4.out.2.setCell (by simp; omega) _⟩
                have HL3a : Hid (dc (ys.drop (j1 + 1)) = 0 → O = none) := fun h => by rw [HO2.out, L3y0 hdot h]
                have HL3b : Hid (dc (ys.drop (j1 + 1)) ≠ 0 → O = expPart (ys.drop (j1 + 1 + dc (ys.drop (j1 + 1)))) (j1 + 1 + dc (ys.drop (j1 + 1)))) := fun h => by rw [HO2.out, L3y hdot h]
                have hle1 : j1 + 1 ≤ ys.length := by omega
                have HD5 : Hid (Calls Try.prog 26 #[.pointer (some ⟨w.heap.size + 1, 0, none⟩), .pointer (some ⟨w.heap.size, 0, none⟩)] (wc.setCell ⟨w.heap.size + 1, 0, none⟩ (.int .i64 ((j1 : Int) + 1))) fun e w' =>
                    e = .returned (.int .i64 (dc (ys.drop (j1 + 1)) : Nat)) ∧ Mem B R w.heap.size (w.heap.size + 1) ys i bad ((j1 + 1) + dc (ys.drop (j1 + 1)) : Nat) w' ∧ Below (w.heap.size + 1) (wc.setCell ⟨w.heap.size + 1, 0, none⟩ (.int .i64 ((j1 : Int) + 1))) w') :=
                  digits_any B R _ _ ys i bad (j1 + 1) _ HA5.out.1 hle1 hl
                have hle5 := dc_drop_le ys ((j1 + 1)) hle1
                obtain ⟨d5, hd5⟩ : ∃ d, dc (ys.drop ((j1 + 1))) = d := ⟨_, rfl⟩
                have HDD5 : Hid (dc (ys.drop ((j1 + 1))) = d5) := hd5
                rw [hd5] at HD5 hle5
                clear hd5
                obtain ⟨q5, hq5⟩ : ∃ q, (j1 + 1) + d5 = q := ⟨_, rfl⟩
                have HQ5 : Hid ((j1 + 1) + d5 = q5) := hq5
                rw [hq5] at HD5 hle5
                clear hq5
                rw [HDD5.out, HQ5.out] at HL3b
                rw [HDD5.out] at HL3a
                by_cases hz : d5 = 0
                · have hzb : ((d5 : Int) == 0) = true := by simpa using hz
                  have HNN : Hid (O = none) := HL3a.out hz
                  clear hdot hz
                  go_upto_if 62 with (go_at_call 26; refine HD5.out.mono ?_; rintro e w6 ⟨rfl, hm6, hb6⟩; have HM6 : Hid (At B R ys i bad w q5 w6) := ⟨hm6, HA5.out.2.trans (hb6.mono (by omega))⟩; clear hm6 hb6)
                  clear hx hr hjc hjf
                  have hx := HM6.out.1.x
                  have hr := HM6.out.1.r0
                  have hjc := HM6.out.1.jc
                  have hjf := HM6.out.1.jf
                  have HN : Hid (O = none) := HNN
                  have HFH : Hid (Calls Try.prog 27 #[.pointer (some ⟨R, 0, none⟩)] w6 fun e w' => e = .returned (.tuple #[]) ∧ Mem B R w.heap.size (w.heap.size + 1) ys ys.length true q5 w' ∧ Below R w6 w') := fail_any B R _ _ ys i bad q5 w6 HM6.out.1
                  go_wp2_with (go_at_call 27; refine HFH.out.mono ?_; rintro e wf ⟨rfl, hmf, hbf⟩; have HMF : Hid (At' B R ys ys.length true w q5 wf) := ⟨hmf, HM6.out.2.trans hbf⟩; clear hmf hbf)
                  refine bodyPost_ret (results_none Try.results25 _ _ _) rfl ?_
                  refine ⟨rfl, ?_, ?_, HMF.out.2⟩
                  · rw [HN.out]; exact HMF.out.1.r1
                  · rw [HN.out]; exact HMF.out.1.r2
                · have hzb : ((d5 : Int) == 0) = false := by simpa using hz
                  have HEE : Hid (O = expPart (ys.drop q5) q5) := HL3b.out hz
                  clear hdot hz
                  go_wp2_with (go_at_call 26; refine HD5.out.mono ?_; rintro e w6 ⟨rfl, hm6, hb6⟩; have HM6 : Hid (At B R ys i bad w q5 w6) := ⟨hm6, HA5.out.2.trans (hb6.mono (by omega))⟩; clear hm6 hb6)
                  go_meet
                  case rel => exact ⟨q5, hle5, HEE, HM6.out⟩
            case rest =>
              obtain ⟨j3, hle3, HO3, HM7⟩ := hcut
              clear hx hr hjc hjf HM4 HO2 hle
              have hx := HM7.out.1.x
              have hr := HM7.out.1.r0
              have hjc := HM7.out.1.jc
              have hjf := HM7.out.1.jf
              go_upto_region 13 with fail
              go_cut [91] from 4 (fun s w' => s = .bool (expB ys j3) ∧ Hid (At B R ys i bad w j3 w'))
              case first =>
                by_cases hlt : j3 < ys.length
                · have hcj := HM7.out.1.bytes j3 hlt
                  obtain ⟨c1, hc1⟩ : ∃ c1, ys.getD j3 0 = c1 := ⟨_, rfl⟩
                  rw [hc1] at hcj
                  have HB : Hid (expB ys j3 = (c1 == 101 || c1 == 69)) := by show _ = _; unfold expB; rw [decide_eq_true hlt, hc1, Bool.true_and]
                  clear hc1
                  have hin : (j3 : Int) < (ys.length : Int) := by omega
                  by_cases he : c1 = 101
                  · have heb : (c1 == 101) = true := by simpa using he
                    clear he
                    go_quiet (fail)
                    go_wp2
                    go_meet
                    case rel => exact ⟨by rw [HB.out, heb, Bool.true_or], HM7.out.1.drewN _, below_drewN HM7.out.2 _⟩
                  · have heb : (c1 == 101) = false := by simpa using he
                    clear he
                    go_quiet (fail)
                    go_wp2
                    go_meet
                    case rel => exact ⟨by rw [HB.out, heb, Bool.false_or], HM7.out.1.drewN _, below_drewN HM7.out.2 _⟩
                · have HB : Hid (expB ys j3 = false) := by show _ = _; unfold expB; rw [decide_eq_false hlt, Bool.false_and]
                  have hin : decide ((j3 : Int) < (ys.length : Int)) = false := decide_eq_false (by omega)
                  go_quiet (fail)
                  go_wp2
                  go_meet
                  case rel => exact ⟨by rw [HB.out], HM7.out.1.drewN _, below_drewN HM7.out.2 _⟩
              case rest =>
                obtain ⟨rfl, HM8⟩ := hcut
                clear hx hr hjc hjf HM7
                have hx := HM8.out.1.x
                have hr := HM8.out.1.r0
                have hjc := HM8.out.1.jc
                have hjf := HM8.out.1.jf
                cases hexp : expB ys j3 with
                | false =>
                  have hr1 := HM8.out.1.r1
                  have hrf := HM8.out.1.rf 1
                  have HSO : Hid (O = some j3) := by show _ = _; rw [HO3.out, L4n hexp]
                  go_wp2
                  go_end0
                  refine ⟨rfl, ?_, ?_, ?_⟩
                  · rw [HSO.out]; exact (HM8.out.1.setI _).r1
                  · rw [HSO.out]; exact (HM8.out.1.setI j3).r2
                  · exact HM8.out.2.setCell (Nat.le_refl _) _
                | true =>
                  have hlt := (expB_lt hexp).1
                  have HO4 : Hid (O = if signB ys (j3 + 1) then expDigits (ys.drop (j3 + 2)) (j3 + 2) else expDigits (ys.drop (j3 + 1)) (j3 + 1)) := by show _ = _; rw [HO3.out, L4y hexp]
                  have HA9 : Hid (At B R ys i bad w (j3 + 1) (wc.setCell ⟨w.heap.size + 1, 0, none⟩ (.int .i64 ((j3 : Int) + 1)))) :=
                    ⟨HM8.out.1.setJ _, HM8.out.2.setCell (by simp; omega) _⟩
                  obtain ⟨j4, hj4⟩ : ∃ j4, j3 + 1 = j4 := ⟨_, rfl⟩
                  have HJ4 : Hid (j3 + 1 = j4) := hj4
                  have hj4i : (j3 : Int) + 1 = (j4 : Int) := by omega
                  have hle4 : j4 ≤ ys.length := by omega
                  rw [hj4i] at HA9
                  rw [hj4] at HA9
                  rw [show j3 + 2 = j4 + 1 by omega, hj4] at HO4
                  clear hj4 hexp HO3
                  go_upto_region 15 with fail
                  have hx9 := HA9.out.1.x
                  have hr9 := HA9.out.1.r0
                  have hjc9 := HA9.out.1.jc
                  obtain ⟨w9, hw9⟩ : ∃ w9, (wc.setCell ⟨w.heap.size + 1, 0, none⟩ (.int .i64 (j4 : Int))) = w9 := ⟨_, rfl⟩
                  rw [hw9] at hx9 hr9 hjc9 HA9 ⊢
                  clear hw9 hx hr hjc hjf hj4i hlt HM8
                  go_cut [120] from 4 (fun s w' => s = .bool (signB ys j4) ∧ Hid (At B R ys i bad w j4 w'))
                  case first =>
                    by_cases hlt : j4 < ys.length
                    · have hcj := HA9.out.1.bytes j4 hlt
                      obtain ⟨c1, hc1⟩ : ∃ c1, ys.getD j4 0 = c1 := ⟨_, rfl⟩
                      rw [hc1] at hcj
                      have HB : Hid (signB ys j4 = (c1 == 43 || c1 == 45)) := by show _ = _; unfold signB; rw [decide_eq_true hlt, hc1, Bool.true_and]
                      clear hc1
                      have hin : (j4 : Int) < (ys.length : Int) := by omega
                      by_cases he : c1 = 43
                      · have heb : (c1 == 43) = true := by simpa using he
                        clear he
                        go_quiet (fail)
                        go_wp2
                        go_meet
                        case rel => exact ⟨by rw [HB.out, heb, Bool.true_or], HA9.out.1.drewN _, below_drewN HA9.out.2 _⟩
                      · have heb : (c1 == 43) = false := by simpa using he
                        clear he
                        go_quiet (fail)
                        go_wp2
                        go_meet
                        case rel => exact ⟨by rw [HB.out, heb, Bool.false_or], HA9.out.1.drewN _, below_drewN HA9.out.2 _⟩
                    · have HB : Hid (signB ys j4 = false) := by show _ = _; unfold signB; rw [decide_eq_false hlt, Bool.false_and]
                      have hin : decide ((j4 : Int) < (ys.length : Int)) = false := decide_eq_false (by omega)
                      go_quiet (fail)
                      go_wp2
                      go_meet
                      case rel => exact ⟨by rw [HB.out], HA9.out.1.drewN _, below_drewN HA9.out.2 _⟩
                  case rest =>
                    obtain ⟨rfl, HMa⟩ := hcut
                    clear hx9 hr9 hjc9 HA9
                    have hx := HMa.out.1.x
                    have hr := HMa.out.1.r0
                    have hjc := HMa.out.1.jc
                    have hjf := HMa.out.1.jf
                    go_upto_if 120 with fail
                    go_cut [] from 4 (fun w' => ∃ j5 : Nat, j5 ≤ ys.length ∧ Hid (O = expDigits (ys.drop j5) j5) ∧ Hid (At B R ys i bad w j5 w'))
                    case first =>
                      cases hsg : signB ys j4 with
                      | false =>
                        have HE : Hid (O = expDigits (ys.drop j4) j4) := by show _ = _; rw [HO4.out, hsg]; rfl
                        go_wp2
                        go_meet
                        case rel => exact ⟨j4, hle4, HE, HMa.out⟩
                      | true =>
                        have hlt := (signB_lt hsg).1
                        have HE : Hid (O = expDigits (ys.drop (j4 + 1)) (j4 + 1)) := by show _ = _; rw [HO4.out, hsg]; rfl
                        clear hsg
                        go_wp2
                        go_meet
                        case rel => exact ⟨j4 + 1, by omega, HE, HMa.out.1.setJ _, HMa.out.2.setCell (by simp; omega) _⟩
                    case rest =>
                      obtain ⟨j5, hle5', HO5, HMb⟩ := hcut
                      clear hx hr hjc hjf HMa HO4 hle4
                      have HDb : Hid (Calls Try.prog 26 #[.pointer (some ⟨w.heap.size + 1, 0, none⟩), .pointer (some ⟨w.heap.size, 0, none⟩)] wc fun e w' =>
                          e = .returned (.int .i64 (dc (ys.drop j5) : Nat)) ∧ Mem B R w.heap.size (w.heap.size + 1) ys i bad (j5 + dc (ys.drop j5) : Nat) w' ∧ Below (w.heap.size + 1) wc w') :=
                        digits_any B R _ _ ys i bad j5 _ HMb.out.1 hle5' hl
                      have hleb := dc_drop_le ys (j5) hle5'
                      obtain ⟨db, hdb⟩ : ∃ d, dc (ys.drop (j5)) = d := ⟨_, rfl⟩
                      have HDDb : Hid (dc (ys.drop (j5)) = db) := hdb
                      rw [hdb] at HDb hleb
                      clear hdb
                      obtain ⟨qb, hqb⟩ : ∃ q, j5 + db = q := ⟨_, rfl⟩
                      have HQb : Hid (j5 + db = qb) := hqb
                      rw [hqb] at HDb hleb
                      clear hqb
                      have HOb : Hid (O = if db = 0 then none else some qb) := by
                        have h := HO5.out
                        unfold expDigits at h
                        rw [HDDb.out, HQb.out] at h
                        exact h
                      by_cases hz : db = 0
                      · have hzb : ((db : Int) == 0) = true := by simpa using hz
                        have HNN : Hid (O = none) := by show _ = _; rw [HOb.out, if_pos hz]
                        clear hz
                        go_upto_if 125 with (go_at_call 26; refine HDb.out.mono ?_; rintro e w6 ⟨rfl, hm6, hb6⟩; have HM6 : Hid (At B R ys i bad w qb w6) := ⟨hm6, HMb.out.2.trans (hb6.mono (by omega))⟩; clear hm6 hb6)
                        have hx := HM6.out.1.x
                        have hr := HM6.out.1.r0
                        have hjc := HM6.out.1.jc
                        have hjf := HM6.out.1.jf
                        have HN : Hid (O = none) := HNN
                        have HFH : Hid (Calls Try.prog 27 #[.pointer (some ⟨R, 0, none⟩)] w6 fun e w' => e = .returned (.tuple #[]) ∧ Mem B R w.heap.size (w.heap.size + 1) ys ys.length true qb w' ∧ Below R w6 w') := fail_any B R _ _ ys i bad qb w6 HM6.out.1
                        go_wp2_with (go_at_call 27; refine HFH.out.mono ?_; rintro e wf ⟨rfl, hmf, hbf⟩; have HMF : Hid (At' B R ys ys.length true w qb wf) := ⟨hmf, HM6.out.2.trans hbf⟩; clear hmf hbf)
                        refine bodyPost_ret (results_none Try.results25 _ _ _) rfl ?_
                        refine ⟨rfl, ?_, ?_, HMF.out.2⟩
                        · rw [HN.out]; exact HMF.out.1.r1
                        · rw [HN.out]; exact HMF.out.1.r2
                      · have hzb : ((db : Int) == 0) = false := by simpa using hz
                        have HSS : Hid (O = some qb) := by show _ = _; rw [HOb.out, if_neg hz]
                        clear hz
                        go_upto_if 125 with (go_at_call 26; refine HDb.out.mono ?_; rintro e w6 ⟨rfl, hm6, hb6⟩; have HM6 : Hid (At B R ys i bad w qb w6) := ⟨hm6, HMb.out.2.trans (hb6.mono (by omega))⟩; clear hm6 hb6)
                        have hx := HM6.out.1.x
                        have hr := HM6.out.1.r0
                        have hjc := HM6.out.1.jc
                        have hjf := HM6.out.1.jf
                        have hr1 := HM6.out.1.r1
                        have hrf := HM6.out.1.rf 1
                        have HSO : Hid (O = some qb) := HSS
                        go_wp2
                        go_end0
                        refine ⟨rfl, ?_, ?_, ?_⟩
                        · rw [HSO.out]; exact (HM6.out.1.setI _).r1
                        · rw [HSO.out]; exact (HM6.out.1.setI qb).r2
                        · exact HM6.out.2.setCell (Nat.le_refl _) _

end Go.Proofs.Qxb6602886a
