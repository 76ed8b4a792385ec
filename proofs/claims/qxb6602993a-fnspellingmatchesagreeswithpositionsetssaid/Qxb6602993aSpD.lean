/-
  THE WALK OF spellingModel.
-/
import Derived.Test.Qxb6602993aSpB
import Derived.Test.Qxb6602993aSpC
import Derived.Test.Qxb6602993aColD
namespace Go.Proofs.Qxb6602993a.Sp
open Go.RowKit
set_option linter.unusedVariables false

theorem Try.inf4 : (Try.prog.info? 4).map (fun i => (i.zero, i.size, i.bytes)) = some (some (.bool false), 1, 1) := by kernel_rfl

theorem Part.below {w w' : World} {v : Value} {ss : List ByteArray} (h : Part w v ss) (hb : Below w.heap.size w w') : Part w' v ss := by
  obtain ⟨a, c, h1, h2, h3, h4, h5, h6⟩ := h
  exact ⟨a, c, h1, h2, h3, h4, h5, h6.below hb⟩
theorem Spell.below {w w' : World} {ao : Option Addr} {SS : List (List ByteArray)} (h : Spell w ao SS) (hb : Below w.heap.size w w') : Spell w' ao SS := by
  rcases h with hh | ⟨b, off, rfl, hc⟩
  · exact .inl hh
  · refine .inr ⟨b, off, rfl, fun j hj => ?_⟩
    obtain ⟨v, hv, hp⟩ := hc j hj
    exact ⟨v, (hb.cell (p := ⟨b, off + j, none⟩) (World.block_lt_of_cell? w ⟨b, off + j, none⟩ hv)).trans hv, hp.below hb⟩

theorem bss_at (SS : List (List ByteArray)) (k : Nat) : (bss SS).getD k [] = bs (SS.getD k []) := by
  simp only [bss, List.getD, List.getElem?_map]
  cases SS[k]? <;> rfl

/-- How spellingModel ends. -/
def ModEnd (W : List UInt8) (S : List (List (List UInt8))) (w : World) (e : Ending) (w' : World) : Prop :=
  ∃ v : Bool, e = .returned (.bool v) ∧ (v = true ↔ Rch W S S.length W.length) ∧ Below w.heap.size w w'

/-- The head of the loop over the parts. -/
def Head (W : List UInt8) (S : List (List (List UInt8))) (w : World) (M k g : Nat) (L : List Bool) (wr : World) : Prop :=
  BRow wr w.heap.size g M L ∧ (∀ q, q ≤ W.length → (L.getD q false = true ↔ Rch W S k q)) ∧ Below w.heap.size w wr

/-- Inside: 'next' too. -/
def Mid (W : List UInt8) (S : List (List (List UInt8))) (w : World) (M k g g2 p j : Nat) (L L2 : List Bool) (wr : World) : Prop :=
  Head W S w M k g L wr ∧ BRow wr w.heap.size g2 M L2 ∧ g < g2 ∧ NP W W.length (Rch W S k) (S.getD k []) p j L2

theorem Mid.drewN {W : List UInt8} {S : List (List (List UInt8))} {w : World} {M k g g2 p j : Nat} {L L2 : List Bool} {wr : World} (h : Mid W S w M k g g2 p j L L2 wr) (n : Nat) : Mid W S w M k g g2 p j L L2 (wr.drewN n) :=
  ⟨⟨h.1.1, h.1.2.1, below_drewN h.1.2.2 n⟩, h.2.1, h.2.2⟩

theorem start_set (M : Nat) (h : 0 < M) (q : Nat) : ((List.replicate M false).set 0 true).getD q false = true ↔ q = 0 := by
  obtain ⟨m, rfl⟩ : ∃ m, M = m + 1 := ⟨M - 1, by omega⟩
  rw [List.replicate_succ, List.set_cons_zero]
  cases q with
  | zero => simp
  | succ q =>
    simp only [List.getD_cons_succ]
    refine iff_of_false ?_ (by omega)
    simp only [List.getD, List.getElem?_replicate]
    split <;> simp

theorem row_at' {w : World} {ao : Option Addr} {ss : List ByteArray} (h : Row w ao ss) {k : Nat} (hk : k < ss.length) :
    ∃ b off y, ao = some ⟨b, off, none⟩ ∧ w.cell? ⟨b, off + k, none⟩ = some (.string y) ∧ (bs ss).getD k [] = y.toList ∧ y ∈ ss := by
  rcases h with hh | ⟨b, off, rfl, hc⟩
  · rw [hh] at hk; simp at hk
  · refine ⟨b, off, _, rfl, hc k hk, bs_at hk rfl, ?_⟩
    simp only [List.getD, List.getElem?_eq_getElem hk, Option.getD_some]
    exact List.getElem_mem hk

set_option maxRecDepth 100000 in
set_option maxHeartbeats 4000000 in
theorem model_any (SS : List (List ByteArray)) (ao : Option Addr) (c : Nat) (s : ByteArray) (w : World) (hl : SS.length ≤ 256) (hs : s.size ≤ 1048576) (hsp : Spell w ao SS) :
    Calls Try.prog 14 #[.slice ao SS.length c, .string s] w (ModEnd s.toList (bss SS) w) := by
  obtain ⟨i0, hi, hz0, hz1, hz2⟩ := info_parts Try.inf4
  obtain ⟨n, hn⟩ : ∃ n, SS.length = n := ⟨_, rfl⟩
  have HN : Hid (SS.length = n ∧ (bss SS).length = n) := ⟨hn, by simp [bss, hn]⟩
  have HSP : Hid (Spell w ao SS) := hsp
  have HW : Hid (s.toList.length = s.size) := len_toList s
  rw [hn] at hl ⊢
  obtain ⟨M, hM'⟩ : ∃ M, s.size + 1 = M := ⟨_, rfl⟩
  have hM : (s.size : Int) + 1 = (M : Int) := by omega
  have HM : Hid (s.size + 1 = M) := hM'
  have hMl : M ≤ 1048577 := by omega
  have hM0 : 0 < M := by omega
  clear hsp hn hM'
  go_enter Try.func14, Try.ntmps14
  go_wp2_with (at_make; refine wpList_make_full _ rfl _ _ 40 rfl w.heap.size 4 i0 (.bool false) 1 Try.underlying40 hi hz0 hz1 _ _ _ _ M rfl rfl rfl rfl ?b1 ?b2 (Nat.le_refl _) ?_)
  case b1 => rw [hz2]; omega
  case b2 => unfold maxLen; omega
  intro w0 ho hg
  have H0 : Hid (BRow w0 w.heap.size w.heap.size M (List.replicate M false) ∧ Below w.heap.size w w0) := by
    refine ⟨?_, (Below.refl _ _).grown hg (Nat.le_refl _) (by rintro q ⟨⟩)⟩
    unfold BRow
    rw [List.map_replicate]
    simpa [toList_madeCells_one] using ho
  clear ho hg
  have hc0 := H0.out.1.cell (j := 0) hM0
  have hf0 := H0.out.1.frozen 0
  have H1 : Hid (Head s.toList (bss SS) w M 0 w.heap.size ((List.replicate M false).set 0 true) (w0.setCell ⟨w.heap.size, 0, none⟩ (.bool true))) := by
    refine ⟨H0.out.1.set 0 true, fun q hq => ?_, H0.out.2.setCell (Nat.le_refl _) _⟩
    exact start_set M hM0 q
  have hM0i : (0 : Int) < (M : Int) := by omega
  go_wp2
  clear hc0 hf0 H0
  go_loopg [6, 7, 8, 9, 10, 11] (n + 1) (fun g0 rv i _ _ _ _ wr => ∃ k g L, k ≤ n ∧ g0 = n + 1 - k ∧ i = .int .i64 (k : Nat) ∧ rv = .slice (some ⟨g, 0, none⟩) M M ∧ Hid (Head s.toList (bss SS) w M k g L wr))
  case atStart => exact ⟨0, _, _, Nat.zero_le _, rfl, rfl, rfl, H1⟩
  case round =>
    obtain ⟨k, g, L, hk, hgk, rfl, rfl, HH⟩ := hrel
    clear H1
    by_cases hlt : k < n
    · obtain ⟨b, off, a, c1, ss, rfl, hss, hcell, hnone, hssc, hcm, hsz, hrow⟩ := spell_at (HSP.out.below HH.out.2.2) (k := k) (by have := HN.out; omega)
      have HT : Hid ((bss SS).getD k [] = bs ss) := by show _ = _; rw [bss_at, hss]
      obtain ⟨np, hnp⟩ : ∃ np, ss.length = np := ⟨_, rfl⟩
      rw [hnp] at hcell hssc
      have HP : Hid (ss.length = np ∧ (bs ss).length = np) := ⟨hnp, by rw [bs_len]; exact hnp⟩
      have hnpl : np ≤ 9223372036854775807 := by unfold maxLen at hcm; omega
      have hbw : b < w.heap.size := by
        rcases HSP.out with h | ⟨b', off', e, hc⟩
        · have := HN.out.1; rw [h] at this; simp at this; omega
        · obtain ⟨rfl, rfl⟩ : b = b' ∧ off = off' := by simpa using e
          obtain ⟨v, hv, _⟩ := hc k (by have := HN.out; omega)
          exact World.block_lt_of_cell? w _ hv
      have HOut : Hid (w.cell? ⟨b, off + k, none⟩ = some (.slice a np c1)) := (HH.out.2.2.cell (p := ⟨b, off + k, none⟩) hbw).symm.trans hcell
      have HRow : Hid (Row w a ss ∧ ∀ s ∈ ss, s.size ≤ maxLen) := by
        refine ⟨?_, hsz⟩
        obtain ⟨b', off', a', c', ss', e1, e2, e3, _, _, _, _, e8⟩ := spell_at HSP.out (k := k) (by have := HN.out; omega)
        obtain ⟨rfl, rfl⟩ : b = b' ∧ off = off' := by simpa using e1
        rw [hss] at e2
        subst e2
        rw [hnp] at e3
        have := HOut.out.symm.trans e3
        simp at this
        rw [this.1]; exact e8
      clear hss hnp hnone hssc hcm hsz hrow hcell
      go_wp2_with (at_make; refine wpList_make_full _ rfl _ _ 40 rfl w.heap.size 4 i0 (.bool false) 1 Try.underlying40 hi hz0 hz1 _ _ _ _ M rfl rfl rfl rfl ?b1 ?b2 ?b3 ?_)
      case b1 => rw [hz2]; omega
      case b2 => unfold maxLen; omega
      case b3 => exact HH.out.2.2.size
      intro w1 ho hg
      have HM1 : Hid (Mid s.toList (bss SS) w M k g wr.heap.size 0 0 L (List.replicate M false) w1) := by
        refine ⟨⟨HH.out.1.keep (hg.block g HH.out.1.lt (by simp)), HH.out.2.1, HH.out.2.2.grown hg HH.out.2.2.size (by rintro q ⟨⟩)⟩, ?_, HH.out.1.lt, NP.init _⟩
        unfold BRow
        rw [List.map_replicate]
        simpa [toList_madeCells_one] using ho
      obtain ⟨g2, hg2⟩ : ∃ g2, wr.heap.size = g2 := ⟨_, rfl⟩
      rw [hg2] at HM1 ⊢
      clear ho hg HH hg2
      go_wp2
      go_loopg [9, 10, 11] (s.size + 2) (fun g0 i _ _ wr => ∃ p L2, p ≤ s.size + 1 ∧ g0 = s.size + 2 - p ∧ i = .int .i64 (p : Nat) ∧ Hid (Mid s.toList (bss SS) w M k g g2 p 0 L L2 wr))
      case atStart => exact ⟨0, _, Nat.zero_le _, rfl, rfl, HM1⟩
      case round =>
        obtain ⟨p, L2, hp, hgp, rfl, HMd⟩ := hrel
        clear HM1
        by_cases hp2 : p ≤ s.size
        · have hpM : p < M := by have := HM.out; omega
          have hcr := HMd.out.1.1.cell hpM
          have hpi : (p : Int) ≤ (s.size : Int) := by omega
          have hpMi : (p : Int) < (M : Int) := by omega
          have HRC := HMd.out.1.2.1 p (by rw [HW.out]; exact hp2)
          cases hLp : L.getD p false with
          | false =>
            rw [hLp] at hcr HRC
            have HS : Hid (Mid s.toList (bss SS) w M k g g2 (p + 1) 0 L L2 wr) := ⟨HMd.out.1, HMd.out.2.1, HMd.out.2.2.1, HMd.out.2.2.2.skip (fun h => absurd (HRC.2 h) (by decide))⟩
            clear HRC hLp
            go_wp2
            go_roundg (s.size + 2 - (p + 1))
            case measure => omega
            case rel => exact ⟨p + 1, L2, by omega, rfl, by go_num, HS⟩
          | true =>
            rw [hLp] at hcr HRC
            have HRP : Hid (Rch s.toList (bss SS) k p) := HRC.1 rfl
            clear HRC hLp
            go_wp2
            clear hcr
            go_loopg [10, 11] (np + 1) (fun g0 i _ wr => ∃ j L2, j ≤ np ∧ g0 = np + 1 - j ∧ i = .int .i64 (j : Nat) ∧ Hid (Mid s.toList (bss SS) w M k g g2 p j L L2 wr))
            case atStart => exact ⟨0, L2, Nat.zero_le _, rfl, rfl, HMd⟩
            case round =>
              obtain ⟨j, L3, hj, hgj, rfl, HMj⟩ := hrel
              clear HMd
              have hout : wr.cell? ⟨b, off + k, none⟩ = some (.slice a np c1) := (HMj.out.1.2.2.cell (p := ⟨b, off + k, none⟩) hbw).trans HOut.out
              by_cases hltj : j < np
              · obtain ⟨b1, off1, y, rfl, hcy, hy, hmem⟩ := row_at' (HRow.out.1.below HMj.out.1.2.2) (k := j) (by have := HP.out; omega)
                have HY : Hid (((bss SS).getD k []).getD j [] = y.toList) := by show _ = _; rw [HT.out, hy]
                have hysz := HRow.out.2 y hmem
                have HC : Hid (Calls Try.prog 24 #[.string s, .int .i64 p, .string y] wr (QEnd (y.toList.isPrefixOf (s.toList.drop p)) wr)) := hasAt_any s y p wr hp2 hs hysz
                unfold maxLen at hysz
                clear hy hmem
                cases hv : y.toList.isPrefixOf (s.toList.drop p) with
                | false =>
                  have HS : Hid (Mid s.toList (bss SS) w M k g g2 p (j + 1) L L3 wr) := ⟨HMj.out.1, HMj.out.2.1, HMj.out.2.2.1, HMj.out.2.2.2.miss (by rw [HY.out]; exact hv)⟩
                  rw [hv] at HC
                  clear hv
                  go_wp2_with (go_at_call 24; refine HC.out.mono ?_; rintro e w2 ⟨rfl, m, rfl⟩)
                  go_roundg (np + 1 - (j + 1))
                  case measure => omega
                  case rel => exact ⟨j + 1, L3, by omega, rfl, by go_num, HS.out.drewN _⟩
                | true =>
                  have hle : y.size ≤ s.size - p := by have := pre_len hv; rwa [len_toList, len_toList] at this
                  have hxM : p + y.size < M := by have := HM.out; omega
                  have HS : Hid (∀ m, Mid s.toList (bss SS) w M k g g2 p (j + 1) L (L3.set (p + y.size) true) ((wr.drewN m).setCell ⟨g2, p + y.size, none⟩ (.bool true))) := by
                    intro m
                    have hd := HMj.out.drewN m
                    refine ⟨⟨hd.1.1.other (by have := hd.2.2.1; omega) _ _, hd.1.2.1, hd.1.2.2.setCell hd.2.1.base _⟩, hd.2.1.set _ _, hd.2.2.1, hd.2.2.2.hit HRP.out (by rw [HY.out]; exact hv) (by rw [HY.out, len_toList]) (by rw [hd.2.1.len]; exact hxM)⟩
                  rw [hv] at HC
                  clear hv
                  have hcn := HMj.out.2.1.cell hxM
                  have hfn := HMj.out.2.1.frozen (p + y.size)
                  have hxi : (p : Int) + (y.size : Int) < (M : Int) := by omega
                  go_wp2_with (go_at_call 24; refine HC.out.mono ?_; rintro e w2 ⟨rfl, m, rfl⟩)
                  go_roundg (np + 1 - (j + 1))
                  case measure => omega
                  case rel => exact ⟨j + 1, _, by omega, rfl, by go_num, HS.out _⟩
              · have HS : Hid (Mid s.toList (bss SS) w M k g g2 (p + 1) 0 L L3 wr) := by
                  refine ⟨HMj.out.1, HMj.out.2.1, HMj.out.2.2.1, NP.done ?_ HRP.out⟩
                  have h1 := HMj.out.2.2.2
                  rw [HT.out, HP.out.2, show np = j by omega]
                  rw [HT.out] at h1; exact h1
                go_wp2
                go_roundg (s.size + 2 - (p + 1))
                case measure => omega
                case rel => exact ⟨p + 1, L3, by omega, rfl, by go_num, HS⟩
        · have HS : Hid (Head s.toList (bss SS) w M (k + 1) g2 L2 wr) := by
            refine ⟨HMd.out.2.1, ?_, HMd.out.1.2.2⟩
            have h1 := HMd.out.2.2.2
            rw [show p = s.toList.length + 1 by rw [HW.out]; omega] at h1
            exact h1.fin
          go_wp2
          go_roundg (n + 1 - (k + 1))
          case measure => omega
          case rel => exact ⟨k + 1, g2, L2, by omega, rfl, by go_num, rfl, HS⟩
    · have hc := HH.out.1.cell (j := s.size) (by have := HM.out; omega)
      have HF : Hid (L.getD s.size false = true ↔ Rch s.toList (bss SS) (bss SS).length s.toList.length) := by
        have h1 := HH.out.2.1 s.size (by rw [HW.out]; exact Nat.le_refl _)
        rw [HW.out, HN.out.2, show n = k by omega]; exact h1
      have hiM : (s.size : Int) < (M : Int) := by omega
      obtain ⟨v, hv⟩ : ∃ v, L.getD s.size false = v := ⟨_, rfl⟩
      rw [hv] at hc HF
      clear hv
      go_wp2
      go_ret
      exact ⟨v, rfl, HF.out, HH.out.2.2⟩
end Go.Proofs.Qxb6602993a.Sp
