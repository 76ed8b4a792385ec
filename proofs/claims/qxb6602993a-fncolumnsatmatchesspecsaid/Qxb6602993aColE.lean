/-
  THE WALK OF columnsAt: both lists there.
-/
import Derived.Test.Qxb6602993aColD
namespace Go.Proofs.Qxb6602993a
open Go.RowKit

set_option maxRecDepth 100000 in
set_option maxHeartbeats 2000000 in
theorem columnsAt_some (B B' n n' r : Nat) (ss tt : List ByteArray) (w : World) (hn : ss.length = n) (hn' : tt.length = n') (hm : n ≤ 4096) (hm' : n' ≤ 4096) (hrr : r ≤ n') (hr : Row w (some ⟨B, 0, none⟩) ss) (hr' : Row w (some ⟨B', 0, none⟩) tt) :
    Calls Try.prog 25 #[.slice (some ⟨B, 0, none⟩) n n, .slice (some ⟨B', 0, none⟩) n' n', .int .i64 r] w (ColEnd (bs ss) (bs tt) r n w) := by
  obtain ⟨i0, hi, hz0, hz1, hz2⟩ := info_parts Try.inf3
  have HR : Hid (Row w (some ⟨B, 0, none⟩) ss) := hr
  have HR' : Hid (Row w (some ⟨B', 0, none⟩) tt) := hr'
  have HN : Hid (ss.length = n ∧ tt.length = n') := ⟨hn, hn'⟩
  have HL : Hid ((bs ss).length = n ∧ (bs tt).length = n') := ⟨by rw [bs_len]; exact hn, by rw [bs_len]; exact hn'⟩
  clear hr hn hr' hn'
  by_cases hrn : n < r
  · have HF : Hid (¬ Acc (bs ss) (bs tt) r) := fun h => by have := h.1; have := HL.out; omega
    have h1 : decide ((n : Int) < (r : Int)) = true := decide_eq_true (by omega)
    go_enter Try.func25, Try.ntmps25
    go_upto_region 1 with fail
    go_quiet (fail)
    go_wp2
    go_ret2
    exact ⟨.inl ⟨HF.out, rfl⟩, below_drewN (Below.refl _ _) _⟩
  have h1 : decide ((n : Int) < (r : Int)) = false := decide_eq_false (by omega)
  have h2 : (r : Int) ≤ (n : Int) := by omega
  have h3 : (r : Int) ≤ (n' : Int) := by omega
  by_cases hEq : EqTo (bs ss) (bs tt) r
  rotate_left
  · have HF : Hid (¬ Acc (bs ss) (bs tt) r) := fun h => hEq h.2.1
    have HC : Hid (∀ W, Below w.heap.size w W → Calls Try.prog 27 #[.slice (some ⟨B, 0, none⟩) r n, .slice (some ⟨B', 0, none⟩) r n'] W fun e w' => e = .returned (.bool false) ∧ ∃ m, w' = W.drewN m) :=
      fun W hW => equal_no (ss := ss.take r) (tt := tt.take r) W (by have := HN.out; simp; omega) (by have := HN.out; simp; omega) (by omega) ((HR.out.below hW).take r) ((HR'.out.below hW).take r) (by rw [bs_take, bs_take, eqTo_take]; exact hEq)
    clear hEq
    go_enter Try.func25, Try.ntmps25
    go_upto_region 1 with fail
    go_quiet ((go_at_call 27; refine Calls.quiet_of (HC.out _ (below_drewN (Below.refl _ _) _))))
    go_wp2
    go_ret2
    exact ⟨.inl ⟨HF.out, rfl⟩, below_drewN (Below.refl _ _) _⟩
  have HEQ : Hid (EqTo (bs ss) (bs tt) r) := hEq
  have HC : Hid (∀ W, Below w.heap.size w W → Calls Try.prog 27 #[.slice (some ⟨B, 0, none⟩) r n, .slice (some ⟨B', 0, none⟩) r n'] W fun e w' => e = .returned (.bool true) ∧ ∃ m, w' = W.drewN m) :=
    fun W hW => equal_yes (ss := ss.take r) (tt := tt.take r) W (by have := HN.out; simp; omega) (by have := HN.out; simp; omega) (by omega) ((HR.out.below hW).take r) ((HR'.out.below hW).take r) (by rw [bs_take, bs_take, eqTo_take]; exact HEQ.out)
  clear hEq
  obtain ⟨f, hf⟩ : ∃ f : Nat → Int, f = atv (bs ss) (bs tt) r := ⟨_, rfl⟩
  have HFv : Hid (f = atv (bs ss) (bs tt) r) := hf
  clear hf
  go_enter Try.func25, Try.ntmps25
  go_upto_region 1 with fail
  go_quiet ((go_at_call 27; refine Calls.quiet_of (HC.out _ (below_drewN (Below.refl _ _) _))))
  go_wp2_with (at_make; refine wpList_make_full _ rfl _ _ 34 rfl w.heap.size 3 i0 (.int .i64 0) 1 Try.underlying34 hi hz0 hz1 _ _ _ _ n rfl rfl rfl rfl ?b1 ?b2 (Nat.le_refl _) ?_)
  case b1 => rw [hz2]; omega
  case b2 => unfold maxLen; omega
  intro w0 ho hg
  have H0 : Hid (AtSt f w n 0 w0) := by
    refine ⟨?_, (below_drewN (Below.refl _ _) _).grown hg (Nat.le_refl _) (by rintro q ⟨⟩)⟩
    rw [halfI_zero]
    simpa [toList_madeCells_one] using ho
  clear ho hg HC
  go_wp2
  go_loopg [9, 30] (r + 1) (fun g _ i wr => ∃ k : Nat, k ≤ r ∧ g = r + 1 - k ∧ i = .int .i64 k ∧ Hid (AtSt f w n k wr))
  case atStart => exact ⟨0, Nat.zero_le _, rfl, rfl, H0⟩
  case round =>
    obtain ⟨k, hk, hgk, rfl, HA⟩ := hrel
    clear H0
    by_cases hlt : k < r
    · have hc := HA.out.cell (j := k) (by omega)
      have hfz := HA.out.1.frozenAt k
      have HS : Hid (AtSt f w n (k + 1) (wr.setCell ⟨w.heap.size, k, none⟩ (.int .i64 (k : Int)))) := HA.out.store (by rw [HFv.out]; unfold atv; rw [if_pos hlt])
      rw [if_neg (Nat.lt_irrefl _)] at hc
      go_wp2
      go_roundg (r + 1 - (k + 1))
      case measure => omega
      case rel => exact ⟨k + 1, by omega, rfl, by go_num, HS⟩
    · have HA2 : Hid (AtSt f w n r wr) := by
        have : k = r := by omega
        rw [← this]; exact HA.out
      clear HA hgk
      go_wp2
      go_loopg [10, 11] (n + 1 - r) (fun g i _ wr => ∃ k : Nat, r ≤ k ∧ k ≤ n ∧ g = n + 1 - k ∧ i = .int .i64 k ∧ Hid (∀ i, r ≤ i → i < k → fi ((bs ss).getD i []) ((bs tt).drop r) < ((bs tt).drop r).length ∧ ∀ m, r ≤ m → m < i → (bs ss).getD m [] ≠ (bs ss).getD i []) ∧ Hid (AtSt f w n k wr))
      case atStart => exact ⟨r, Nat.le_refl _, by omega, rfl, rfl, fun i h1 h2 => by omega, HA2⟩
      case round =>
        obtain ⟨i, hri, hin, hgi, rfl, HG, HA⟩ := hrel
        clear HA2
        by_cases hlt2 : i < n
        · obtain ⟨b, off, y, hao, hc, hy⟩ := row_at (HR.out.below HA.out.2) (k := i) (by have := HN.out; omega)
          obtain ⟨rfl, rfl⟩ : B = b ∧ 0 = off := by simpa using hao
          rw [Nat.zero_add] at hc
          have HY : Hid ((bs ss).getD i [] = y.toList) := hy
          clear hy hao
          have hii : (i : Int) < (n : Int) := by omega
          have hrii : (r : Int) ≤ (i : Int) := by omega
          have hnr : ¬ n = r := by omega
          have HI : Hid (∀ W, Below w.heap.size w W → Calls Try.prog 28 #[.slice (if n' = r then some ⟨B', 0, none⟩ else some ⟨B', r, none⟩) (n' - r) (n' - r), .string y] W fun e w' => e = .returned (.int .i64 (idx y.toList ((bs tt).drop r))) ∧ w' = W) :=
            fun W hW => by
              have := index_any (if n' = r then some ⟨B', 0, none⟩ else some ⟨B', r, none⟩) (n' - r) (n' - r) (tt.drop r) y W (by have := HN.out; simp; omega) (by omega) ((HR'.out.below hW).from r HN.out.2)
              rw [bs_drop] at this; exact this
          have HK : Hid (∀ W, Below w.heap.size w W → Calls Try.prog 29 #[.slice (some ⟨B, r, none⟩) (i - r) (n - r), .string y] W fun e w' => e = .returned (.bool (decide (fi y.toList (((bs ss).take i).drop r) < (((bs ss).take i).drop r).length))) ∧ w' = W) :=
            fun W hW => by
              have := contains_any (some ⟨B, r, none⟩) (i - r) (n - r) ((ss.take i).drop r) y W (by have := HN.out; simp; omega) (by omega) ((HR.out.below hW).sub r i (by have := HN.out; omega))
              rw [bs_drop, bs_take] at this; exact this
          have HB : Hid (Below w.heap.size w wr) := HA.out.2
          by_cases hfi : fi y.toList ((bs tt).drop r) < ((bs tt).drop r).length
          rotate_left
          · have HF : Hid (¬ Acc (bs ss) (bs tt) r) := fun h => hfi (by have := (h.2.2 i hri (by rw [HL.out.1]; exact hlt2)).1; rwa [HY.out] at this)
            have e1 : idx y.toList ((bs tt).drop r) = -1 := by unfold idx; rw [if_neg hfi]
            rw [e1] at HI
            clear e1 hfi HK
            by_cases hnr' : n' = r
            · subst hnr'
              rw [if_pos rfl, Nat.sub_self] at HI
              go_wp2
              go_quiet ((go_at_call 28; refine Calls.quiet_of_same (HI.out _ (below_drewN HB.out _))))
              go_wp2
              go_quiet (fail)
              go_wp2
              go_ret2
              refine ⟨.inl ⟨HF.out, rfl⟩, ?_⟩
              first | exact below_drewN (below_drewN HB.out _) _ | exact below_drewN HB.out _
            · rw [if_neg hnr'] at HI
              go_wp2
              go_quiet ((go_at_call 28; refine Calls.quiet_of_same (HI.out _ (below_drewN HB.out _))))
              go_wp2
              go_quiet (fail)
              go_wp2
              go_ret2
              refine ⟨.inl ⟨HF.out, rfl⟩, ?_⟩
              first | exact below_drewN (below_drewN HB.out _) _ | exact below_drewN HB.out _
          · have e1 : idx y.toList ((bs tt).drop r) = (fi y.toList ((bs tt).drop r) : Nat) := by unfold idx; rw [if_pos hfi]
            have HFI : Hid (fi y.toList ((bs tt).drop r) < ((bs tt).drop r).length) := hfi
            rw [e1] at HI
            obtain ⟨q, hq⟩ : ∃ q, fi y.toList ((bs tt).drop r) = q := ⟨_, rfl⟩
            have HQ : Hid (fi y.toList ((bs tt).drop r) = q) := hq
            have hql : q ≤ 4096 := by have h := HFI.out; rw [hq] at h; simp at h; have := HL.out; omega
            rw [hq] at HI
            clear e1 hfi hq
            have hnr' : ¬ n' = r := fun e => by have h := HFI.out; rw [List.drop_of_length_le (by rw [HL.out.2]; omega)] at h; simp at h
            rw [if_neg hnr'] at HI
            have hq0 : decide ((q : Int) < 0) = false := decide_eq_false (by omega)
            have HV : Hid ((r : Int) + (q : Int) = f i) := by
              show _ = _
              rw [HFv.out]; unfold atv; rw [if_neg (by omega), HY.out, HQ.out]
            go_wp2
            go_quiet ((go_at_call 28; refine Calls.quiet_of_same (HI.out _ (below_drewN HB.out _))))
            go_wp2
            have hc9 : (wr.drewN nq).cell? ⟨B, i, none⟩ = some (Value.string y) := hc
            have HB9 : Hid (Below w.heap.size w (wr.drewN nq)) := below_drewN HB.out _
            have HA9 : Hid (AtSt f w n i (wr.drewN nq)) := HA.out.drewN _
            obtain ⟨w9, hw9⟩ : ∃ w9, wr.drewN nq = w9 := ⟨_, rfl⟩
            rw [hw9] at hc9 HB9 HA9 ⊢
            clear hw9 hc HB HA
            by_cases hrep : fi y.toList (((bs ss).take i).drop r) < (((bs ss).take i).drop r).length
            · have HF : Hid (¬ Acc (bs ss) (bs tt) r) := fun h => by
                obtain ⟨m, h1, h2, h3⟩ := (rep_iff (by rw [HL.out.1]; omega) _).1 hrep
                exact (h.2.2 i hri (by rw [HL.out.1]; exact hlt2)).2 m h1 h2 (by rw [h3, HY.out])
              rw [decide_eq_true hrep] at HK
              clear hrep
              go_quiet ((go_at_call 29; refine Calls.quiet_of_same (HK.out _ (below_drewN HB9.out _))))
              go_wp2
              go_ret2
              exact ⟨.inl ⟨HF.out, rfl⟩, below_drewN HB9.out _⟩
            · have HS : Hid (∀ a, r ≤ a → a < i + 1 → fi ((bs ss).getD a []) ((bs tt).drop r) < ((bs tt).drop r).length ∧ ∀ m, r ≤ m → m < a → (bs ss).getD m [] ≠ (bs ss).getD a []) := by
                intro a h1 h2
                by_cases ha : a < i
                · exact HG.out a h1 ha
                · have : a = i := by omega
                  subst this
                  refine ⟨by rw [HY.out]; exact HFI.out, fun m h3 h4 h5 => hrep ((rep_iff (by rw [HL.out.1]; omega) _).2 ⟨m, h3, h4, by rw [h5, HY.out]⟩)⟩
              rw [decide_eq_false hrep] at HK
              clear hrep
              go_quiet ((go_at_call 29; refine Calls.quiet_of_same (HK.out _ (below_drewN HB9.out _))))
              have hcA := HA9.out.cell (j := i) hlt2
              rw [if_neg (Nat.lt_irrefl _)] at hcA
              have hfz := HA9.out.1.frozenAt i
              go_wp2
              go_roundg (n + 1 - (i + 1))
              case measure => omega
              case rel => exact ⟨i + 1, by omega, by omega, rfl, by go_num, HS, (HA9.out.drewN _).store HV.out⟩
        · have HF : Hid (Acc (bs ss) (bs tt) r) := ⟨by rw [HL.out.1]; omega, HEQ.out, fun a h1 h2 => HG.out a h1 (by rw [HL.out.1] at h2; omega)⟩
          have HA3 : Hid (AtSt f w n n wr) := by
            have h9 : i = n := by omega
            have h10 := HA.out
            rw [h9] at h10; exact h10
          clear HA HG
          go_wp2
          go_ret2
          refine ⟨.inr ⟨HF.out, rfl, fun j hj => ?_⟩, HA3.out.2⟩
          rw [HA3.out.cell hj, if_pos hj, HFv.out]

/-- given is nil. -/
theorem columnsAt_nilG (ao' : Option Addr) (n' r : Nat) (tt : List ByteArray) (w : World) (hn' : tt.length = n') (hm' : n' ≤ 4096) (hrr : r ≤ n') (hs : ao' = none ∧ n' = 0 ∨ ∃ B', ao' = some ⟨B', 0, none⟩) (hr' : Row w ao' tt) :
    Calls Try.prog 25 #[.slice none 0 0, .slice ao' n' n', .int .i64 r] w (ColEnd (bs []) (bs tt) r 0 w) := by
  obtain ⟨i0, hi, hz0, hz1, hz2⟩ := info_parts Try.inf3
  have HR' : Hid (Row w ao' tt) := hr'
  have HN : Hid (tt.length = n') := hn'
  clear hr' hn'
  by_cases hrn : 0 < r
  · have HF : Hid (¬ Acc (bs []) (bs tt) r) := fun h => by have := h.1; simp [bs] at this; omega
    have h1 : decide ((0 : Int) < (r : Int)) = true := decide_eq_true (by omega)
    go_enter Try.func25, Try.ntmps25
    go_upto_region 1 with fail
    go_quiet (fail)
    go_wp2
    go_ret2
    exact ⟨.inl ⟨HF.out, rfl⟩, below_drewN (Below.refl _ _) _⟩
  obtain rfl : r = 0 := by omega
  have h3 : (0 : Int) ≤ (n' : Int) := by omega
  have HF : Hid (Acc (bs []) (bs tt) 0) := ⟨by simp, fun i hi => by omega, fun i h1 h2 => by simp [bs] at h2⟩
  have HC : Hid (∀ W c, Calls Try.prog 27 #[.slice none 0 0, .slice ao' 0 c] W fun e w' => e = .returned (.bool true) ∧ ∃ m, w' = W.drewN m) :=
    fun W c => equal_yes (ss := []) (tt := []) W rfl rfl (by omega) (.inl rfl) (.inl rfl) (fun i hi => by omega)
  clear hrn
  rcases hs with ⟨rfl, rfl⟩ | ⟨B', rfl⟩
  all_goals
    go_enter Try.func25, Try.ntmps25
    go_upto_region 1 with fail
    go_quiet ((go_at_call 27; refine Calls.quiet_of (HC.out _ _)))
    go_wp2_with (at_make; refine wpList_make_full _ rfl _ _ 34 rfl w.heap.size 3 i0 (.int .i64 0) 1 Try.underlying34 hi hz0 hz1 _ _ _ _ 0 rfl rfl rfl rfl (by rw [hz2]; decide) (by decide) (Nat.le_refl _) ?_)
    intro w0 ho hg
    have HB : Hid (Below w.heap.size w w0) := (below_drewN (Below.refl _ _) _).grown hg (Nat.le_refl _) (by rintro q ⟨⟩)
    clear ho hg HC
    go_wp2
    refine wp_loop_rounds 1 ?_
    rw [rounds_succ]
    go_wp2
    refine wp_loop_rounds 1 ?_
    rw [rounds_succ]
    go_wp2
    go_ret2
    exact ⟨.inr ⟨HF.out, rfl, fun j hj => by omega⟩, HB.out⟩

set_option maxHeartbeats 1000000 in
/-- header is nil, given is there. -/
theorem columnsAt_nilH (B n : Nat) (ss : List ByteArray) (w : World) (hn : ss.length = n) (hm : n ≤ 4096) (hr : Row w (some ⟨B, 0, none⟩) ss) :
    Calls Try.prog 25 #[.slice (some ⟨B, 0, none⟩) n n, .slice none 0 0, .int .i64 0] w (ColEnd (bs ss) (bs []) 0 n w) := by
  obtain ⟨i0, hi, hz0, hz1, hz2⟩ := info_parts Try.inf3
  have HR : Hid (Row w (some ⟨B, 0, none⟩) ss) := hr
  have HN : Hid (ss.length = n) := hn
  have HL : Hid ((bs ss).length = n) := by show _ = _; rw [bs_len]; exact hn
  clear hr hn
  have h1 : decide ((n : Int) < 0) = false := decide_eq_false (by omega)
  have h2 : (0 : Int) ≤ (n : Int) := by omega
  have HC : Hid (∀ W c, Calls Try.prog 27 #[.slice (some ⟨B, 0, none⟩) 0 c, .slice none 0 0] W fun e w' => e = .returned (.bool true) ∧ ∃ m, w' = W.drewN m) :=
    fun W c => equal_yes (ss := []) (tt := []) W rfl rfl (by omega) (.inl rfl) (.inl rfl) (fun i hi => by omega)
  go_enter Try.func25, Try.ntmps25
  go_upto_region 1 with fail
  go_quiet ((go_at_call 27; refine Calls.quiet_of (HC.out _ _)))
  go_wp2_with (at_make; refine wpList_make_full _ rfl _ _ 34 rfl w.heap.size 3 i0 (.int .i64 0) 1 Try.underlying34 hi hz0 hz1 _ _ _ _ n rfl rfl rfl rfl ?b1 ?b2 (Nat.le_refl _) ?_)
  case b1 => rw [hz2]; omega
  case b2 => unfold maxLen; omega
  intro w0 ho hg
  have HB : Hid (Below w.heap.size w w0) := (below_drewN (Below.refl _ _) _).grown hg (Nat.le_refl _) (by rintro q ⟨⟩)
  clear ho hg HC
  go_wp2
  refine wp_loop_rounds 1 ?_
  rw [rounds_succ]
  go_wp2
  by_cases h0 : n = 0
  · subst h0
    have HF : Hid (Acc (bs ss) (bs []) 0) := ⟨by omega, fun i hi => by omega, fun i h1 h2 => by rw [HL.out] at h2; omega⟩
    refine wp_loop_rounds 1 ?_
    rw [rounds_succ]
    go_wp2
    go_ret2
    exact ⟨.inr ⟨HF.out, rfl, fun j hj => by omega⟩, HB.out⟩
  · have HF : Hid (¬ Acc (bs ss) (bs []) 0) := fun h => by
      have := (h.2.2 0 (by omega) (by rw [HL.out]; omega)).1
      simp [bs] at this
    obtain ⟨b, off, y, hao, hc, hy⟩ := row_at (HR.out.below HB.out) (k := 0) (by have := HN.out; omega)
    obtain ⟨rfl, rfl⟩ : B = b ∧ 0 = off := by simpa using hao
    rw [Nat.zero_add] at hc
    clear hy hao
    have hii : (0 : Int) < (n : Int) := by omega
    have HI : Hid (∀ W, Calls Try.prog 28 #[.slice none 0 0, .string y] W fun e w' => e = .returned (.int .i64 (-1)) ∧ w' = W) :=
      fun W => index_any none 0 0 [] y W rfl (by omega) (.inl rfl)
    refine wp_loop_rounds 1 ?_
    rw [rounds_succ]
    go_wp2
    go_quiet ((go_at_call 28; refine Calls.quiet_of_same (HI.out _)))
    go_wp2
    go_quiet (fail)
    go_wp2
    go_ret2
    refine ⟨.inl ⟨HF.out, rfl⟩, ?_⟩
    first | exact below_drewN (below_drewN HB.out _) _ | exact below_drewN HB.out _

/-- columnsAt, whatever comes out of cloneStrings. -/
theorem columnsAt_any (ao ao' : Option Addr) (n n' r : Nat) (ss tt : List ByteArray) (w : World) (hn : ss.length = n) (hn' : tt.length = n') (hm : n ≤ 4096) (hm' : n' ≤ 4096) (hrr : r ≤ n')
    (hs : ao = none ∧ n = 0 ∨ ∃ B, ao = some ⟨B, 0, none⟩) (hs' : ao' = none ∧ n' = 0 ∨ ∃ B', ao' = some ⟨B', 0, none⟩) (hr : Row w ao ss) (hr' : Row w ao' tt) :
    Calls Try.prog 25 #[.slice ao n n, .slice ao' n' n', .int .i64 r] w (ColEnd (bs ss) (bs tt) r n w) := by
  rcases hs with ⟨rfl, rfl⟩ | ⟨B, rfl⟩
  · obtain rfl : ss = [] := List.eq_nil_of_length_eq_zero hn
    exact columnsAt_nilG ao' n' r tt w hn' hm' hrr hs' hr'
  · rcases hs' with ⟨rfl, rfl⟩ | ⟨B', rfl⟩
    · obtain rfl : tt = [] := List.eq_nil_of_length_eq_zero hn'
      obtain rfl : r = 0 := by omega
      exact columnsAt_nilH B n ss w hn hm hr
    · exact columnsAt_some B B' n n' r ss tt w hn hn' hm hm' hrr hr hr'
end Go.Proofs.Qxb6602993a
