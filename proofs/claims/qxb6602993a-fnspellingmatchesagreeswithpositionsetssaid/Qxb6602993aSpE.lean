/-
  THE WALKS OF cloneSpelling AND THE BYTE GUARDS.
-/
import Derived.Test.Qxb6602993aSpD
namespace Go.Proofs.Qxb6602993a.Sp
open Go.RowKit
set_option linter.unusedVariables false

theorem Try.inf30 : (Try.prog.info? 30).map (fun i => (i.zero, i.size, i.bytes)) = some (some (.slice none 0 0), 1, 24) := by kernel_rfl

/-- A part of the copy: it does not lie in block C. -/
def Far (C : Nat) (w : World) (v : Value) (ss : List ByteArray) : Prop :=
  Part w v ss ∧ ∀ a n c, v = .slice a n c → a = none ∨ ∃ B, a = some ⟨B, 0, none⟩ ∧ B ≠ C

theorem Far.below {C : Nat} {w w' : World} {v : Value} {ss : List ByteArray} (h : Far C w v ss) (hb : Below w.heap.size w w') : Far C w' v ss := ⟨h.1.below hb, h.2⟩
theorem Far.set {C : Nat} {w : World} {v : Value} {ss : List ByteArray} (h : Far C w v ss) (k : Nat) (u : Value) : Far C (w.setCell ⟨C, k, none⟩ u) v ss := by
  refine ⟨?_, h.2⟩
  obtain ⟨a, c, h1, h2, h3, h4, h5, h6⟩ := h.1
  refine ⟨a, c, h1, h2, h3, h4, h5, ?_⟩
  rcases h6 with hh | ⟨b, off, rfl, hc⟩
  · exact .inl hh
  · refine .inr ⟨b, off, rfl, fun j hj => ?_⟩
    rw [← hc j hj]
    rcases h.2 _ _ _ h1 with h7 | ⟨B, h7, h8⟩
    · cases h7
    · obtain ⟨rfl, rfl⟩ : b = B ∧ off = 0 := by simpa using h7
      exact World.cell?_setCell_other _ _ _ _ (by simp)

/-- How cloneStrings ends, told apart from block C. -/
def CloneFar (C n : Nat) (ss : List ByteArray) (w : World) (e : Ending) (w' : World) : Prop :=
  ∃ v, e = .returned v ∧ Far C w' v ss ∧ Below w.heap.size w w'

theorem clone_far (C : Nat) (ao : Option Addr) (n c : Nat) (ss : List ByteArray) (w : World) (hn : ss.length = n) (hm : n ≤ 65536) (hC : C < w.heap.size) (hnone : ao = none → ss = [] ∧ c = 0) (hsz : ∀ s ∈ ss, s.size ≤ maxLen) (hr : Row w ao ss) :
    Calls Try.prog 18 #[.slice ao n c] w (CloneFar C n ss w) := by
  cases ao with
  | none =>
    obtain ⟨rfl, rfl⟩ := hnone rfl
    obtain rfl : n = 0 := by simpa using hn.symm
    refine (clone_nil w).mono ?_
    rintro e w' ⟨rfl, rfl⟩
    exact ⟨_, rfl, ⟨⟨none, 0, rfl, fun _ => ⟨rfl, rfl⟩, by simp, by decide, hsz, .inl rfl⟩, fun a n c h => .inl (by cases h; rfl)⟩, Below.refl _ _⟩
  | some x =>
    subst hn
    refine (clone_some x ss.length c ss w rfl (by omega) hr).mono ?_
    rintro e w' ⟨rfl, hCo⟩
    refine ⟨_, rfl, ⟨⟨_, _, rfl, fun h => (by cases h), Nat.le_refl _, by unfold maxLen; omega, hsz, .inr ⟨w.heap.size, 0, rfl, fun j hj => by rw [Nat.zero_add]; exact hCo.cell j hj⟩⟩, ?_⟩, hCo.2.1⟩
    intro a n c h
    cases h
    exact .inr ⟨_, rfl, by omega⟩

/-- The state of the loop: k parts are copied. -/
def CS (SS : List (List ByteArray)) (w : World) (n k : Nat) (VS : List Value) (wr : World) : Prop :=
  wr.ownsRow w.heap.size 30 1 (.slice (some ⟨w.heap.size, 0, none⟩) n n) n VS ∧ Below w.heap.size w wr ∧ w.heap.size < wr.heap.size ∧ (∀ j, j < k → Far w.heap.size wr (VS.getD j (.slice none 0 0)) (SS.getD j []))

/-- How cloneSpelling ends. -/
def CSEnd (SS : List (List ByteArray)) (w : World) (e : Ending) (w' : World) : Prop :=
  ∃ bo, e = .returned (.slice bo SS.length SS.length) ∧ Spell w' bo SS ∧ Below w.heap.size w w'

theorem own_lt30 {w : World} {B g n c : Nat} {xs : List Value} (h : w.ownsRow B 30 1 (.slice (some ⟨g, 0, none⟩) n c) n xs) : g < w.heap.size := by
  obtain ⟨_, h | ⟨g', c', cur, e, _, hh, _⟩⟩ := h
  · cases h.1
  · simp at e
    obtain ⟨rfl, rfl⟩ := e
    by_cases hlt : g < w.heap.size
    · exact hlt
    · rw [Array.getElem?_eq_none (by omega)] at hh; cases hh

theorem own_keep30 {w w' : World} {B g n c : Nat} {xs : List Value} (h : w.ownsRow B 30 1 (.slice (some ⟨g, 0, none⟩) n c) n xs) (he : w'.heap[g]? = w.heap[g]?) : w'.ownsRow B 30 1 (.slice (some ⟨g, 0, none⟩) n c) n xs := by
  obtain ⟨h1, h | ⟨g', c', cur, e, hb, hh, hr⟩⟩ := h
  · cases h.1
  · refine ⟨h1, .inr ⟨g', c', cur, e, hb, ?_, hr⟩⟩
    simp at e
    obtain ⟨rfl, rfl⟩ := e
    rw [he]; exact hh

theorem spell_nil (w : World) : Calls Try.prog 12 #[.slice none 0 0] w (CSEnd [] w) := by
  have hnil := fun w => Lib.run_eql_slice_nil (P := Try.prog) w 27 30 none 0 0 0 0 Try.underlying27
  go_enter Try.func12, Try.ntmps12
  go_wp2
  go_ret
  exact ⟨none, rfl, .inl rfl, Below.refl _ _⟩

set_option maxHeartbeats 2000000 in
theorem spell_clone (SS : List (List ByteArray)) (x : Addr) (n c : Nat) (w : World) (hn : SS.length = n) (hl : n ≤ 256) (hin : ∀ ss ∈ SS, ss.length ≤ 65536) (hsp : Spell w (some x) SS) :
    Calls Try.prog 12 #[.slice (some x) n c] w (CSEnd SS w) := by
  obtain ⟨i0, hi, hz0, hz1, hz2⟩ := info_parts Try.inf30
  have hnil := fun w => Lib.run_eql_slice_nil (P := Try.prog) w 27 30 (some x) n c 0 0 Try.underlying27
  have HSP : Hid (Spell w (some x) SS) := hsp
  have HN : Hid (SS.length = n) := hn
  have HI : Hid (∀ ss ∈ SS, ss.length ≤ 65536) := hin
  clear hsp hn hin
  go_enter Try.func12, Try.ntmps12
  go_wp2_with (at_make; refine wpList_make_full _ rfl _ _ 27 rfl w.heap.size 30 i0 (.slice none 0 0) 1 Try.underlying27 hi hz0 hz1 _ _ _ _ n rfl rfl rfl rfl ?b1 ?b2 (Nat.le_refl _) ?_)
  case b1 => rw [hz2]; omega
  case b2 => unfold maxLen; omega
  intro w0 ho hg
  have H0 : Hid (∃ VS, CS SS w n 0 VS w0) := by
    refine ⟨_, ho, (Below.refl _ _).grown hg (Nat.le_refl _) (by rintro q ⟨⟩), own_lt30 ho, fun j hj => by omega⟩
  clear ho hg hnil
  go_wp2
  go_loopg [4] (n + 1) (fun g i wr => ∃ k : Nat, k ≤ n ∧ g = n + 1 - k ∧ i = .int .i64 k ∧ Hid (∃ VS, CS SS w n k VS wr))
  case atStart => exact ⟨0, Nat.zero_le _, rfl, rfl, H0⟩
  case round =>
    obtain ⟨k, hk, hg, rfl, HC⟩ := hrel
    clear H0
    by_cases hlt : k < n
    · obtain ⟨VS, hCS⟩ := HC.out
      obtain ⟨b, off, a, c1, ss, hx, hss, hcell, hnone, hssc, hcm, hsz, hrow⟩ := spell_at (HSP.out.below hCS.2.1) (k := k) (by have := HN.out; omega)
      obtain rfl : x = ⟨b, off, none⟩ := by simpa using hx
      have hmem : ss ∈ SS := by
        rw [← hss]
        have hkl : k < SS.length := by have := HN.out; omega
        simp only [List.getD, List.getElem?_eq_getElem hkl, Option.getD_some]
        exact List.getElem_mem hkl
      have HCl : Hid (Calls Try.prog 18 #[.slice a ss.length c1] wr (CloneFar w.heap.size ss.length ss wr)) := clone_far w.heap.size a ss.length c1 ss wr rfl (HI.out ss hmem) hCS.2.2.1 hnone hsz hrow
      have HSS : Hid (SS.getD k [] = ss) := hss
      have HCS : Hid (CS SS w n k VS wr) := hCS
      clear hx hss hnone hssc hcm hsz hrow hmem hCS HC
      go_wp2_with fail
      refine HCl.out.mono ?_
      rintro e w2 ⟨v, rfl, hfar, hb2⟩
      have H2 : Hid (CS SS w n k VS w2 ∧ Far w.heap.size w2 v ss) := by
        refine ⟨⟨?_, HCS.out.2.1.trans (hb2.mono HCS.out.2.1.size), Nat.lt_of_lt_of_le HCS.out.2.2.1 hb2.size, fun j hj => (HCS.out.2.2.2 j hj).below hb2⟩, hfar⟩
        exact own_keep30 HCS.out.1 (hb2.block _ HCS.out.2.2.1)
      clear hfar hb2 HCl
      have hvl : k < VS.length := by have := H2.out.1.1.1; omega
      have hcd : ∃ u, w2.cell? ⟨w.heap.size, k, none⟩ = some u := ⟨VS[k], by rw [H2.out.1.1.cellAt k (by omega)]; exact List.getElem?_eq_getElem hvl⟩
      obtain ⟨u, hcd⟩ := hcd
      have hfz := H2.out.1.1.frozenAt k
      obtain ⟨a2, c2, hv, _⟩ := H2.out.2.1
      have HNew : Hid (∃ VS', CS SS w n (k + 1) VS' (w2.setCell ⟨w.heap.size, k, none⟩ v)) := by
        refine ⟨VS.set k v, (H2.out.1.1.stored k v).1, H2.out.1.2.1.setCell (Nat.le_refl _) _, by simpa using H2.out.1.2.2.1, fun j hj => ?_⟩
        by_cases hjk : j = k
        · subst hjk
          rw [HSS.out]
          have : (VS.set j v).getD j (.slice none 0 0) = v := by simp [List.getD, hvl]
          rw [this]
          exact H2.out.2.set _ _
        · have : (VS.set k v).getD j (.slice none 0 0) = VS.getD j (.slice none 0 0) := by
            simp only [List.getD, List.getElem?_set]
            rw [if_neg (by omega)]
          rw [this]
          exact (H2.out.1.2.2.2 j (by omega)).set _ _
      subst hv
      go_wp2
      go_roundg (n + 1 - (k + 1))
      case measure => omega
      case rel => exact ⟨k + 1, by omega, rfl, by go_num, HNew⟩
    · obtain ⟨VS, hCS⟩ := HC.out
      have HF : Hid (Spell wr (some ⟨w.heap.size, 0, none⟩) SS ∧ Below w.heap.size w wr) := by
        refine ⟨.inr ⟨w.heap.size, 0, rfl, fun j hj => ?_⟩, hCS.2.1⟩
        have hj2 : j < n := by have := HN.out; omega
        have hvl : j < VS.length := by have := hCS.1.1; omega
        refine ⟨VS.getD j (.slice none 0 0), ?_, (hCS.2.2.2 j (by omega)).1⟩
        rw [Nat.zero_add, hCS.1.cellAt j (by omega)]
        simp [List.getD, hvl]
      clear hCS HC
      go_wp2
      go_ret
      exact ⟨_, by rw [HN.out]; rfl, HF.out⟩

/-- How a guard ends. -/
def GEnd (w : World) (e : Ending) (w' : World) : Prop := (∃ v : Bool, e = .returned (.bool v)) ∧ w = w'

theorem part_lens {w : World} {ao : Option Addr} {SS : List (List ByteArray)} (h : Spell w ao SS) : ∀ k, k < SS.length → (SS.getD k []).length ≤ maxLen := by
  intro k hk
  obtain ⟨b, off, a, c, ss, _, rfl, _, _, h1, h2, _⟩ := spell_at h hk
  omega

set_option maxRecDepth 100000 in
set_option maxHeartbeats 2000000 in
theorem sbytes_any (SS : List (List ByteArray)) (ao : Option Addr) (n c : Nat) (s : ByteArray) (w : World) (hn : SS.length = n) (hm : n ≤ maxLen) (hsp : Spell w ao SS) :
    Calls Try.prog 10 #[.slice ao n c, .string s] w (GEnd w) := by
  have HSP : Hid (Spell w ao SS) := hsp
  have HN : Hid (SS.length = n) := hn
  clear hsp hn
  unfold maxLen at hm
  by_cases hb : n ≤ 1048576
  rotate_left
  · go_enter Try.func10, Try.ntmps10
    go_wp2
    go_ret
    exact ⟨⟨_, rfl⟩, rfl⟩
  go_enter Try.func10, Try.ntmps10
  go_wp2
  go_loopg [5, 6, 7] (n + 1) (fun g t i _ wr => ∃ k : Nat, k ≤ n ∧ g = n + 1 - k ∧ i = .int .i64 k ∧ (∃ q : Int, t = .int .i64 q) ∧ wr = w)
  case atStart => exact ⟨0, Nat.zero_le _, rfl, rfl, ⟨_, rfl⟩, rfl⟩
  case round =>
    obtain ⟨k, hk, hg, rfl, ⟨q, rfl⟩, rfl⟩ := hrel
    by_cases hlt : k < n
    · obtain ⟨b, off, a, c1, ss, rfl, hss, hcell, hnone, hssc, hcm, hsz, hrow⟩ := spell_at HSP.out (k := k) (by have := HN.out; omega)
      obtain ⟨np, hnp⟩ : ∃ np, ss.length = np := ⟨_, rfl⟩
      rw [hnp] at hcell hssc
      have HP : Hid (ss.length = np) := hnp
      have hnpl : np ≤ 9223372036854775807 := by unfold maxLen at hcm; omega
      have HR : Hid (Row wr a ss) := hrow
      clear hss hnp hnone hssc hcm hsz hrow
      go_wp2
      all_goals first
        | (go_ret; exact ⟨⟨_, rfl⟩, rfl⟩)
        | skip
      go_loopg [5, 7] (np + 1) (fun g t i wr' => ∃ j : Nat, j ≤ np ∧ g = np + 1 - j ∧ i = .int .i64 j ∧ (∃ q : Int, t = .int .i64 q) ∧ wr' = wr)
      case atStart => exact ⟨0, Nat.zero_le _, rfl, rfl, ⟨_, rfl⟩, rfl⟩
      case round =>
        obtain ⟨j, hj, hgj, rfl, ⟨q2, rfl⟩, rfl⟩ := hrel
        by_cases hltj : j < np
        · obtain ⟨b1, off1, y, rfl, hcy, hy⟩ := row_at HR.out (k := j) (by have := HP.out; omega)
          clear hy
          go_wp2
          all_goals first
            | (go_ret; exact ⟨⟨_, rfl⟩, rfl⟩)
            | (go_roundg (np + 1 - (j + 1))
               case measure => omega
               case rel => exact ⟨j + 1, by omega, rfl, by go_num, ⟨_, rfl⟩, rfl⟩)
        · go_wp2
          go_roundg (n + 1 - (k + 1))
          case measure => omega
          case rel => exact ⟨k + 1, by omega, rfl, by go_num, ⟨_, rfl⟩, rfl⟩
    · go_wp2
      all_goals (go_ret; exact ⟨⟨_, rfl⟩, rfl⟩)

/-- How spellingTooBig ends: where it says no, no part is long. -/
def BEnd (SS : List (List ByteArray)) (w : World) (e : Ending) (w' : World) : Prop := (∃ v : Bool, e = .returned (.bool v) ∧ (v = false → ∀ ss ∈ SS, ss.length ≤ 65536)) ∧ w = w'

theorem bend_yes {SS : List (List ByteArray)} {w : World} : BEnd SS w (.returned (.bool true)) w := ⟨⟨true, rfl, fun h => by cases h⟩, rfl⟩

set_option maxRecDepth 100000 in
set_option maxHeartbeats 2000000 in
theorem sbig_any (SS : List (List ByteArray)) (ao : Option Addr) (n c : Nat) (s : ByteArray) (w : World) (hn : SS.length = n) (hm : n ≤ 256) (hs : s.size ≤ 1048576) (hsp : Spell w ao SS) :
    Calls Try.prog 11 #[.slice ao n c, .string s] w (BEnd SS w) := by
  have HSP : Hid (Spell w ao SS) := hsp
  have HN : Hid (SS.length = n) := hn
  clear hsp hn
  go_enter Try.func11, Try.ntmps11
  go_wp2
  all_goals first
    | (go_ret; exact bend_yes)
    | skip
  go_loopg [5, 6, 7] (n + 1) (fun g t i _ wr => ∃ k : Nat, k ≤ n ∧ g = n + 1 - k ∧ i = .int .i64 k ∧ (∃ q : Int, t = .int .i64 q) ∧ Hid (∀ j, j < k → (SS.getD j []).length ≤ 65536) ∧ wr = w)
  case atStart => exact ⟨0, Nat.zero_le _, rfl, rfl, ⟨_, rfl⟩, fun j hj => by omega, rfl⟩
  case round =>
    obtain ⟨k, hk, hg, rfl, ⟨q, rfl⟩, HL, rfl⟩ := hrel
    by_cases hlt : k < n
    · obtain ⟨b, off, a, c1, ss, rfl, hss, hcell, hnone, hssc, hcm, hsz, hrow⟩ := spell_at HSP.out (k := k) (by have := HN.out; omega)
      obtain ⟨np, hnp⟩ : ∃ np, ss.length = np := ⟨_, rfl⟩
      rw [hnp] at hcell hssc
      have HP : Hid (ss.length = np ∧ SS.getD k [] = ss) := ⟨hnp, hss⟩
      have hnpl : np ≤ 9223372036854775807 := by unfold maxLen at hcm; omega
      have HR : Hid (Row wr a ss) := hrow
      clear hss hnp hnone hssc hcm hsz hrow
      by_cases hbig : 65536 < np
      · go_wp2
        go_ret
        exact bend_yes
      have HL2 : Hid (∀ j, j < k + 1 → (SS.getD j []).length ≤ 65536) := by
        intro j hj
        by_cases hjk : j < k
        · exact HL.out j hjk
        · have : j = k := by omega
          subst this
          rw [HP.out.2, HP.out.1]; omega
      go_wp2
      all_goals first
        | (go_ret; exact bend_yes)
        | skip
      go_loopg [5, 7] (np + 1) (fun g t i wr' => ∃ j : Nat, j ≤ np ∧ g = np + 1 - j ∧ i = .int .i64 j ∧ (∃ q : Int, t = .int .i64 q) ∧ wr' = wr)
      case atStart => exact ⟨0, Nat.zero_le _, rfl, rfl, ⟨_, rfl⟩, rfl⟩
      case round =>
        obtain ⟨j, hj, hgj, rfl, ⟨q2, rfl⟩, rfl⟩ := hrel
        by_cases hltj : j < np
        · obtain ⟨b1, off1, y, rfl, hcy, hy⟩ := row_at HR.out (k := j) (by have := HP.out; omega)
          clear hy
          go_wp2
          all_goals first
            | (go_ret; exact bend_yes)
            | (go_roundg (np + 1 - (j + 1))
               case measure => omega
               case rel => exact ⟨j + 1, by omega, rfl, by go_num, ⟨_, rfl⟩, rfl⟩)
        · go_wp2
          go_roundg (n + 1 - (k + 1))
          case measure => omega
          case rel => exact ⟨k + 1, by omega, rfl, by go_num, ⟨_, rfl⟩, HL2, rfl⟩
    · have HF : Hid (∀ ss ∈ SS, ss.length ≤ 65536) := by
        intro ss hss
        obtain ⟨j, hj, rfl⟩ := List.getElem_of_mem hss
        have := HL.out j (by have := HN.out; omega)
        simpa [List.getD, hj] using this
      go_wp2
      go_ret
      exact ⟨⟨false, rfl, fun _ => HF.out⟩, rfl⟩
end Go.Proofs.Qxb6602993a.Sp
