/-
  THE WALK OF THE LAW FnColumnsAtMatchesSpec.
-/
import Derived.Test.Qxb6602993aColE
import Derived.Test.Qxb6602993aColB
namespace Go.Proofs.Qxb6602993a
open Go.RowKit

/-- How cloneStrings ends. -/
def CloneEnd (n : Nat) (ss : List ByteArray) (w : World) (e : Ending) (w' : World) : Prop :=
  ∃ bo : Option Addr, e = .returned (.slice bo n n) ∧ (bo = none ∧ n = 0 ∨ ∃ B, bo = some ⟨B, 0, none⟩) ∧ Row w' bo ss ∧ Below w.heap.size w w'

theorem clone_any (ao : Option Addr) (n c : Nat) (ss : List ByteArray) (w : World) (hn : ss.length = n) (hm : n ≤ 4096) (hnone : ao = none → n = 0 ∧ c = 0) (hr : Row w ao ss) :
    Calls Try.prog 18 #[.slice ao n c] w (CloneEnd n ss w) := by
  cases ao with
  | none =>
    obtain ⟨rfl, rfl⟩ := hnone rfl
    refine (clone_nil w).mono ?_
    rintro e w' ⟨rfl, rfl⟩
    exact ⟨none, rfl, .inl ⟨rfl, rfl⟩, .inl (List.eq_nil_of_length_eq_zero hn), Below.refl _ _⟩
  | some x =>
    refine (clone_some x n c ss w hn (by omega) hr).mono ?_
    rintro e w' ⟨rfl, hC⟩
    exact ⟨_, rfl, .inr ⟨_, rfl⟩, .inr ⟨w.heap.size, 0, rfl, fun j hj => by rw [Nat.zero_add]; exact hC.cell j hj⟩, hC.2.1⟩

theorem zzcol_any (ao ao' : Option Addr) (n n' r : Nat) (G H : List (List UInt8)) (w : World)
    (h : Calls Try.prog 25 #[.slice ao n n, .slice ao' n' n', .int .i64 r] w (ColEnd G H r n w)) :
    Calls Try.prog 19 #[.slice ao n n, .slice ao' n' n', .int .i64 r] w (ColEnd G H r n w) := by
  have HH : Hid (Calls Try.prog 25 #[.slice ao n n, .slice ao' n' n', .int .i64 r] w (ColEnd G H r n w)) := h
  clear h
  go_enter Try.func19, Try.ntmps19
  go_wp2_with fail
  refine HH.out.mono ?_
  rintro e w3 ⟨⟨hA, rfl⟩ | ⟨hA, rfl, hcell⟩, hb⟩
  · have HB : Hid (¬ Acc G H r ∧ Below w.heap.size w w3) := ⟨hA, hb⟩
    clear hA hb
    go_wp2
    go_ret2
    exact ⟨.inl ⟨HB.out.1, rfl⟩, HB.out.2⟩
  · have HB : Hid (Acc G H r ∧ (∀ i, i < n → w3.cell? ⟨w.heap.size, i, none⟩ = some (.int .i64 (atv G H r i))) ∧ Below w.heap.size w w3) := ⟨hA, hcell, hb⟩
    clear hA hb hcell
    go_wp2
    go_ret2
    exact ⟨.inr ⟨HB.out.1, rfl, HB.out.2.1⟩, HB.out.2.2⟩

/-- What 'at' says of a later column. -/
theorem atv_later {G H : List (List UInt8)} {r k n' : Nat} (h : Acc G H r) (hk : k < G.length) (hr : r ≤ k) (hn : H.length = n') :
    ∃ p : Nat, atv G H r k = (p : Int) ∧ r ≤ p ∧ p < n' ∧ H.getD p [] = G.getD k [] ∧ ∀ m, r ≤ m → m < p → H.getD m [] ≠ G.getD k [] := by
  have h1 := (h.2.2 k hr hk).1
  refine ⟨r + fi (G.getD k []) (H.drop r), ?_, by omega, ?_, ?_, ?_⟩
  · unfold atv; rw [if_neg (by omega)]; omega
  · have h2 := h1; rw [List.length_drop] at h2; omega
  · have := fi_at _ _ h1
    rwa [getD_drop] at this
  · intro m h2 h3
    have := fi_before (G.getD k []) (H.drop r) (m - r) (by omega)
    rwa [getD_drop, show r + (m - r) = m by omega] at this
theorem atv_early {G H : List (List UInt8)} {r k : Nat} (hr : k < r) : atv G H r k = (k : Int) := by unfold atv; rw [if_pos hr]

set_option maxHeartbeats 1000000 in
/-- Beyond the guards: true at once. -/
theorem walk_guard (ao ao' : Option Addr) (n n' c c' : Nat) (r : Int) (ss tt : List ByteArray) (w : World) (hn : ss.length = n) (hn' : tt.length = n') (hm : n ≤ maxLen) (hm' : n' ≤ maxLen) (hr : Row w ao ss) (hr' : Row w ao' tt)
    (h : 4096 < n ∨ (n ≤ 4096 ∧ 4096 < n') ∨ (n ≤ 4096 ∧ n' ≤ 4096 ∧ r < 0) ∨ (n ≤ 4096 ∧ n' ≤ 4096 ∧ 0 ≤ r ∧ (n' : Int) < r)) :
    Calls Try.prog 7 #[.slice ao n c, .slice ao' n' c', .int .i64 r] w fun e w' => e = .returned (.bool true) ∧ Below w.heap.size w w' := by
  have HB : Hid (Calls Try.prog 16 #[.slice ao n c, .slice ao' n' c', .int .i64 r] w (SomeBool w)) := bytes_any ao ao' n n' c c' r ss tt w hn hn' hm hm' hr hr'
  have HG : Hid (n ≤ 4096 → n' ≤ 4096 → Calls Try.prog 17 #[.slice ao n c, .slice ao' n' c'] w (SomeBool w)) := fun h1 h2 => big_any ao ao' n n' c c' ss tt w hn hn' h1 h2 hr hr'
  unfold maxLen at hm hm'
  clear hr hr' hn hn'
  rcases h with h | ⟨h, h1⟩ | ⟨h, h1, h2⟩ | ⟨h, h1, h2, h3⟩
  all_goals
    go_enter Try.func7, Try.ntmps7
    go_wp2_with fail
    refine HB.out.mono ?_
    rintro e w1 ⟨⟨v, rfl⟩, rfl⟩
    cases v
    · go_wp2
      go_ret
      exact ⟨rfl, Below.refl _ _⟩
  · go_wp2
    go_ret
    exact ⟨rfl, Below.refl _ _⟩
  · go_wp2
    go_ret
    exact ⟨rfl, Below.refl _ _⟩
  all_goals
    go_wp2_with fail
    refine (HG.out h h1).mono ?_
    rintro e w1 ⟨⟨v, rfl⟩, rfl⟩
    cases v
    · go_wp2
      go_ret
      exact ⟨rfl, Below.refl _ _⟩
    · go_wp2
      go_ret
      exact ⟨rfl, Below.refl _ _⟩

set_option maxRecDepth 100000 in
set_option maxHeartbeats 4000000 in
/-- Behind the guards. -/
theorem walk_in (ao ao' : Option Addr) (n n' c c' : Nat) (r : Nat) (ss tt : List ByteArray) (w : World) (hn : ss.length = n) (hn' : tt.length = n') (hm : n ≤ 4096) (hm' : n' ≤ 4096) (hrr : r ≤ n')
    (hnone : ao = none → n = 0 ∧ c = 0) (hnone' : ao' = none → n' = 0 ∧ c' = 0) (hr : Row w ao ss) (hr' : Row w ao' tt) :
    Calls Try.prog 7 #[.slice ao n c, .slice ao' n' c', .int .i64 r] w fun e w' => e = .returned (.bool true) ∧ Below w.heap.size w w' := by
  have HB : Hid (Calls Try.prog 16 #[.slice ao n c, .slice ao' n' c', .int .i64 r] w (SomeBool w)) := bytes_any ao ao' n n' c c' r ss tt w hn hn' (by unfold maxLen; omega) (by unfold maxLen; omega) hr hr'
  have HG : Hid (Calls Try.prog 17 #[.slice ao n c, .slice ao' n' c'] w (SomeBool w)) := big_any ao ao' n n' c c' ss tt w hn hn' hm hm' hr hr'
  have HC1 : Hid (Calls Try.prog 18 #[.slice ao n c] w (CloneEnd n ss w)) := clone_any ao n c ss w hn hm hnone hr
  have HR' : Hid (Row w ao' tt) := hr'
  have HN : Hid (ss.length = n ∧ tt.length = n') := ⟨hn, hn'⟩
  have HL : Hid ((bs ss).length = n ∧ (bs tt).length = n') := ⟨by rw [bs_len]; exact hn, by rw [bs_len]; exact hn'⟩
  have HNone : Hid (ao' = none → n' = 0 ∧ c' = 0) := hnone'
  have hnil := fun w a n c => Lib.run_eql_slice_nil (P := Try.prog) w 34 3 a n c 0 0 Try.underlying34
  clear hr hr' hn hn' hnone hnone'
  go_enter Try.func7, Try.ntmps7
  go_wp2_with fail
  refine HB.out.mono ?_
  rintro e w0 ⟨⟨v, rfl⟩, rfl⟩
  cases v
  · go_wp2
    go_ret
    exact ⟨rfl, Below.refl _ _⟩
  go_wp2_with fail
  refine HG.out.mono ?_
  rintro e w0 ⟨⟨v, rfl⟩, rfl⟩
  cases v
  rotate_left
  · go_wp2
    go_ret
    exact ⟨rfl, Below.refl _ _⟩
  go_wp2_with fail
  refine HC1.out.mono ?_
  rintro e w1 ⟨bo, rfl, hs1, hrow1, hb1⟩
  have H1 : Hid ((bo = none ∧ n = 0 ∨ ∃ B, bo = some ⟨B, 0, none⟩) ∧ Row w1 bo ss ∧ Below w.heap.size w w1) := ⟨hs1, hrow1, hb1⟩
  have HC2 : Hid (Calls Try.prog 18 #[.slice ao' n' c'] w1 (CloneEnd n' tt w1)) := clone_any ao' n' c' tt w1 HN.out.2 hm' HNone.out (HR'.out.below hb1)
  clear hs1 hrow1 hb1 HC1 HB HG
  go_wp2_with fail
  refine HC2.out.mono ?_
  rintro e w2 ⟨bo', rfl, hs2, hrow2, hb2⟩
  have H2 : Hid ((bo' = none ∧ n' = 0 ∨ ∃ B, bo' = some ⟨B, 0, none⟩) ∧ Row w2 bo' tt ∧ Row w2 bo ss ∧ Below w.heap.size w w2) :=
    ⟨hs2, hrow2, H1.out.2.1.below hb2, H1.out.2.2.trans (hb2.mono H1.out.2.2.size)⟩
  have HZ : Hid (Calls Try.prog 19 #[.slice bo n n, .slice bo' n' n', .int .i64 r] w2 (ColEnd (bs ss) (bs tt) r n w2)) :=
    zzcol_any bo bo' n n' r _ _ w2 (columnsAt_any bo bo' n n' r ss tt w2 HN.out.1 HN.out.2 hm hm' hrr H1.out.1 hs2 H2.out.2.2.1 hrow2)
  clear hs2 hrow2 hb2 HC2 H1
  go_wp2_with fail
  refine HZ.out.mono ?_
  rintro e w3 ⟨hE, hb3⟩
  have H3 : Hid (Row w3 bo' tt ∧ Row w3 bo ss ∧ Below w.heap.size w w3) := ⟨H2.out.2.1.below hb3, H2.out.2.2.1.below hb3, H2.out.2.2.2.trans (hb3.mono H2.out.2.2.2.size)⟩
  have HA : Hid (Calls Try.prog 20 #[.slice bo n n, .slice bo' n' n', .int .i64 r] w3 (AccEnd (bs ss) (bs tt) r w3)) :=
    acceptable_any bo bo' n n' n n' r ss tt w3 HN.out.1 HN.out.2 hm hm' hrr H3.out.2.1 H3.out.1
  clear hb3 HZ
  rcases hE with ⟨hA, rfl⟩ | ⟨hA, rfl, hcell⟩
  · have HNo : Hid (¬ Acc (bs ss) (bs tt) r) := hA
    clear hA
    go_wp2_with fail
    refine HA.out.mono ?_
    rintro e w4 ⟨v, rfl, hv, m, rfl⟩
    cases v
    rotate_left
    · exact absurd (hv.1 rfl) HNo.out
    clear hv
    go_wp2
    go_ret
    exact ⟨rfl, below_drewN H3.out.2.2 _⟩
  · have HYes : Hid (Acc (bs ss) (bs tt) r ∧ ∀ i, i < n → w3.cell? ⟨w2.heap.size, i, none⟩ = some (.int .i64 (atv (bs ss) (bs tt) r i))) := ⟨hA, hcell⟩
    clear hA hcell
    go_wp2_with fail
    refine HA.out.mono ?_
    rintro e w4 ⟨v, rfl, hv, m, rfl⟩
    cases v
    · exact absurd (hv.2 HYes.out.1) (by decide)
    clear hv HA
    have hnn : ((n : Int) != (n : Int)) = false := by simp
    go_wp2
    go_loopg [9, 10, 11] (n + 1) (fun g i _ _ wr => ∃ k : Nat, k ≤ n ∧ g = n + 1 - k ∧ i = .int .i64 k ∧ ∃ m, wr = w3.drewN m)
    case atStart => exact ⟨0, Nat.zero_le _, rfl, rfl, m, rfl⟩
    case round =>
      obtain ⟨k, hk, hgk, rfl, m1, rfl⟩ := hrel
      by_cases hlt : k < n
      · have hat := HYes.out.2 k hlt
        have hki : (k : Int) < (n : Int) := by omega
        by_cases hkr : k < r
        · rw [atv_early hkr] at hat
          have hkk : ((k : Int) != (k : Int)) = false := by simp
          have hkri : (k : Int) < (r : Int) := by omega
          go_wp2
          go_roundg (n + 1 - (k + 1))
          case measure => omega
          case rel => exact ⟨k + 1, by omega, rfl, by go_num, _, rfl⟩
        · obtain ⟨p, hp, hrp, hpn, hHp, hbef⟩ := atv_later HYes.out.1 (k := k) (by rw [HL.out.1]; exact hlt) (by omega) HL.out.2
          rw [hp] at hat
          obtain ⟨b, off, y, rfl, hc, hy⟩ := row_at H3.out.2.1 (k := k) (by have := HN.out; omega)
          obtain ⟨b', off', z, rfl, hc', hz⟩ := row_at H3.out.1 (k := p) (by have := HN.out; omega)
          have hyz : (!(z.toList == y.toList)) = false := by rw [hHp, hy] at hz; simp [hz]
          have HBef : Hid (∀ m, r ≤ m → m < p → (bs tt).getD m [] ≠ y.toList) := fun m h1 h2 => by rw [← hy]; exact hbef m h1 h2
          have h1 : decide ((p : Int) < (r : Int)) = false := decide_eq_false (by omega)
          have h2 : decide ((n' : Int) ≤ (p : Int)) = false := decide_eq_false (by omega)
          have h3 : (p : Int) < (n' : Int) := by omega
          have h4 : (r : Int) ≤ (k : Int) := by omega
          clear hp hHp hbef hy hz
          go_wp2
          go_quiet (fail)
          go_wp2
          clear hyz h1 h2
          go_loopg [11] (p + 1 - r) (fun g j wr => ∃ q : Nat, r ≤ q ∧ q ≤ p ∧ g = p + 1 - q ∧ j = .int .i64 q ∧ ∃ m, wr = w3.drewN m)
          case atStart => exact ⟨r, Nat.le_refl _, hrp, rfl, rfl, m1 + nq, by first | rfl | rw [World.drewN_drewN]⟩
          case round =>
            obtain ⟨q, hrq, hqp, hgq, rfl, m2, rfl⟩ := hrel
            by_cases hltq : q < p
            · obtain ⟨b2, off2, u, hao, hcu, hu⟩ := row_at H3.out.1 (k := q) (by have := HN.out; omega)
              obtain ⟨rfl, rfl⟩ : b' = b2 ∧ off' = off2 := by simpa using hao
              have hne : (u.toList == y.toList) = false := by
                rw [beq_eq_false_iff_ne]
                have := HBef.out q hrq hltq
                rwa [hu] at this
              have hqi : (q : Int) < (p : Int) := by omega
              have hqn : (q : Int) < (n' : Int) := by omega
              clear hao hu
              go_wp2
              go_quiet (fail)
              go_wp2
              go_roundg (p + 1 - (q + 1))
              case measure => omega
              case rel => exact ⟨q + 1, by omega, by omega, rfl, by go_num, m2 + nq, by first | rfl | rw [World.drewN_drewN]⟩
            · go_wp2
              go_roundg (n + 1 - (k + 1))
              case measure => omega
              case rel => exact ⟨k + 1, by omega, rfl, by go_num, m2, rfl⟩
      · go_wp2
        go_ret
        exact ⟨rfl, below_drewN H3.out.2.2 _⟩
end Go.Proofs.Qxb6602993a
