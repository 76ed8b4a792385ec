/-
  ONE CONTRACT A CALLEE, FOR THE TWO LAWS' TOPS.
-/
import Derived.Test.Qxb6603412aE
import Derived.Test.Qxb6603412aF
namespace Go.Proofs.Qxb6603412a
open Go.RowKit Go.Maps
set_option linter.unusedVariables false

/-- An address is plain, or there is none and the slice is nil. -/
def Pl (ao : Option Addr) (n c : Nat) : Prop := (ao = none ∧ n = 0 ∧ c = 0) ∨ ∃ b off, ao = some ⟨b, off, none⟩

/-- A clone. -/
def Cl (n : Nat) (Y : List V3) (w : World) (e : Ending) (w' : World) : Prop :=
  ∃ ao' c', e = .returned (.slice ao' n c') ∧ Pl ao' n c' ∧ TRow w' ao' Y ∧ Below w.heap.size w w'
/-- A converted row. -/
def In (ty n : Nat) (Y : List V3) (w : World) (e : Ending) (w' : World) : Prop :=
  ∃ ev, e = .returned ev ∧ w'.ownsRow 0 ty 3 ev n (flat Y) ∧ Below w.heap.size w w' ∧ Fr w.heap.size w' ev

theorem Made.cl {e n : Nat} {Y : List V3} {w : World} {en : Ending} {w' : World} (h : Made e n Y w en w') : Cl n Y w en w' :=
  ⟨_, _, h.1, .inr ⟨_, _, rfl⟩, h.2.1.row, h.2.2⟩
theorem Made.in {e n : Nat} {Y : List V3} {w : World} {en : Ending} {w' : World} (h : Made e n Y w en w') : In e n Y w en w' :=
  ⟨_, h.1, h.2.1, h.2.2, fun g hg => by rw [ob_slice] at hg; obtain rfl : w.heap.size = g := by simpa using hg
                                        exact ⟨Nat.le_refl _, h.2.1.lt⟩⟩

theorem cloneE_any (ao : Option Addr) (n c : Nat) (E : List (Int × Int × Int)) (w : World) (hn : E.length = n) (hl : n ≤ 1048576) (hr : TRow w ao (E.map eV)) (h0 : ao = none → n = 0 ∧ c = 0) : Calls Try.prog 7 #[.slice ao n c] w (Cl n (E.map eV) w) := by
  cases ao with
  | none =>
    obtain ⟨rfl, rfl⟩ := h0 rfl
    refine (cloneE_nil w).mono ?_
    rintro e w' ⟨rfl, rfl⟩
    exact ⟨_, _, rfl, .inl ⟨rfl, rfl, rfl⟩, hr, Below.refl _ _⟩
  | some x => exact (cloneE_some x n c E w hn hl hr).mono fun e w' h => h.cl
theorem cloneG_any (ao : Option Addr) (n c : Nat) (E : List (Int × Int × Bool)) (w : World) (hn : E.length = n) (hl : n ≤ 1048576) (hr : TRow w ao (E.map gV)) (h0 : ao = none → n = 0 ∧ c = 0) : Calls Try.prog 8 #[.slice ao n c] w (Cl n (E.map gV) w) := by
  cases ao with
  | none =>
    obtain ⟨rfl, rfl⟩ := h0 rfl
    refine (cloneG_nil w).mono ?_
    rintro e w' ⟨rfl, rfl⟩
    exact ⟨_, _, rfl, .inl ⟨rfl, rfl, rfl⟩, hr, Below.refl _ _⟩
  | some x => exact (cloneG_some x n c E w hn hl hr).mono fun e w' h => h.cl
theorem edgesIn_any (ao : Option Addr) (n c : Nat) (E : List (Int × Int × Int)) (w : World) (hn : E.length = n) (hl : n ≤ 1048576) (hr : TRow w ao (E.map eV)) (h0 : Pl ao n c) : Calls Try.prog 12 #[.slice ao n c] w (In 40 n (E.map eV) w) := by
  rcases h0 with ⟨rfl, rfl, rfl⟩ | ⟨b, off, rfl⟩
  · refine (edgesIn_nil w).mono ?_
    rintro e w' ⟨rfl, rfl⟩
    obtain rfl : E = [] := List.length_eq_zero_iff.1 hn
    exact ⟨_, rfl, World.ownsRow_nil _ _ _ _, Below.refl _ _, fun g hg => by simp [Value.ownBlock] at hg⟩
  · exact (edgesIn_some b off n c E w hn hl hr).mono fun e w' h => h.in
theorem grants_any (ao : Option Addr) (n c : Nat) (E : List (Int × Int × Bool)) (w : World) (hn : E.length = n) (hl : n ≤ 1048576) (hr : TRow w ao (E.map gV)) (h0 : Pl ao n c) : Calls Try.prog 13 #[.slice ao n c] w (In 62 n (E.map gV) w) := by
  rcases h0 with ⟨rfl, rfl, rfl⟩ | ⟨b, off, rfl⟩
  · refine (grants_nil w).mono ?_
    rintro e w' ⟨rfl, rfl⟩
    obtain rfl : E = [] := List.length_eq_zero_iff.1 hn
    exact ⟨_, rfl, World.ownsRow_nil _ _ _ _, Below.refl _ _, fun g hg => by simp [Value.ownBlock] at hg⟩
  · exact (grants_some b off n c E w hn hl hr).mono fun e w' h => h.in

set_option maxHeartbeats 1000000 in
theorem zzac_any (ev0 : Value) (E0 : List (Int × Int × Int)) (pg : Int) (ao : Option Addr) (n c bm N : Nat) (G : List (Int × Int × Bool)) (D : DataW Unit) (w : World) (hn : G.length = n) (hl : n ≤ 4096) (hwf : WfG G) (hel : E0.length ≤ 100000)
    (hE : w.ownsRow 0 40 3 ev0 E0.length (flat (E0.map eV)))
    (hr : ∀ wr : World, w.grownBy wr ev0.ownBlock → TRow wr ao (G.map gV)) (hm : ∀ wr : World, w.grownBy wr ev0.ownBlock → wr.ownsMap Try.prog 3 (plainElem Try.prog 3) bm N D) :
    Calls Try.prog 11 #[ev0, .int .i64 pg, .slice ao n c, .map (some bm)] w (AEnd (E0 ++ ac pg (kept D G) (-1) []) w ev0) := by
  have HC := hide3 (ac_any ev0 E0 pg ao n c bm N G D w hn hl hwf hel hE hr hm)
  clear hn hwf hel hE hr hm
  go_enter Try.func11, Try.ntmps11
  go_wp2_with (go_at_call 25; refine HC.out.mono ?_; rintro e w' ⟨ev, rfl, h1, h2, h3⟩; have HF : Hid (w'.ownsRow 0 40 3 ev (E0 ++ ac pg (kept D G) (-1) []).length (flat ((E0 ++ ac pg (kept D G) (-1) []).map eV)) ∧ w.grownBy w' ev0.ownBlock ∧ ∀ g, ev.ownBlock = some g → ev0.ownBlock = some g ∨ w.heap.size ≤ g) := ⟨h1, h2, h3⟩; clear h1 h2 h3)
  go_ret
  exact ⟨_, rfl, HF.out⟩

/-- A row of single cells that is read. -/
def IRow (w : World) (ao : Option Addr) (xs : List Value) : Prop :=
  xs = [] ∨ ∃ b off, ao = some ⟨b, off, none⟩ ∧ ∀ k u, xs[k]? = some u → w.cell? ⟨b, off + k, none⟩ = some u
theorem IRow.below {w w' : World} {ao : Option Addr} {xs : List Value} (h : IRow w ao xs) (hb : Below w.heap.size w w') : IRow w' ao xs := by
  rcases h with hh | ⟨b, off, rfl, hc⟩
  · exact .inl hh
  · refine .inr ⟨b, off, rfl, fun j u hj => ?_⟩
    have h0 := hc j u hj
    exact (hb.cell (p := ⟨b, off + j, none⟩) (World.block_lt_of_cell? w _ h0)).trans h0
theorem own_irow {w : World} {e n : Nat} {v : Value} {xs : List Value} (h : w.ownsRow 0 e 1 v n xs) : ∃ ao c, v = .slice ao n c ∧ IRow w ao xs := by
  rcases own_shape h with ⟨rfl, rfl⟩ | ⟨g, c, rfl, _, _⟩
  · exact ⟨none, 0, rfl, .inl (List.length_eq_zero_iff.1 (by have := h.1; omega))⟩
  · refine ⟨_, c, rfl, .inr ⟨g, 0, rfl, fun k u hk => ?_⟩⟩
    have hlt : k < xs.length := (List.getElem?_eq_some_iff.1 hk).1
    have := h.1
    rw [Nat.zero_add, World.ownsRow.cellAt h k (by omega), hk]
theorem own_trow {w : World} {e n : Nat} {v : Value} {Y : List V3} (h : w.ownsRow 0 e 3 v n (flat Y)) : ∃ ao c, v = .slice ao n c ∧ Pl ao n c ∧ TRow w ao Y ∧ Y.length = n := by
  rcases own_shape h with ⟨rfl, rfl⟩ | ⟨g, c, rfl, _, _⟩
  · have h1 := h.1
    rw [flat_len] at h1
    obtain rfl : Y = [] := List.length_eq_zero_iff.1 (by omega)
    exact ⟨none, 0, rfl, .inl ⟨rfl, rfl, rfl⟩, .inl rfl, rfl⟩
  · exact ⟨_, c, rfl, .inr ⟨_, _, rfl⟩, Own3.row h, Own3.len h⟩
/-- Reading an int, reading a bool. -/
theorem irow_t {w : World} {ao : Option Addr} {K : List (Int × Bool)} (h : IRow w ao (tC K)) {k : Nat} (hk : k < K.length) : ∃ b off, ao = some ⟨b, off, none⟩ ∧ w.cell? ⟨b, off + k, none⟩ = some (.int .i64 (K.getD k (0, false)).1) := by
  rcases h with hh | ⟨b, off, rfl, hc⟩
  · have := congrArg List.length hh; simp [tC] at this; subst this; simp at hk
  · exact ⟨b, off, rfl, hc k _ (by simp [tC, List.getD, hk])⟩
theorem irow_w {w : World} {ao : Option Addr} {K : List (Int × Bool)} (h : IRow w ao (wC K)) {k : Nat} (hk : k < K.length) : ∃ b off, ao = some ⟨b, off, none⟩ ∧ w.cell? ⟨b, off + k, none⟩ = some (.bool (K.getD k (0, false)).2) := by
  rcases h with hh | ⟨b, off, rfl, hc⟩
  · have := congrArg List.length hh; simp [wC] at this; subst this; simp at hk
  · exact ⟨b, off, rfl, hc k _ (by simp [wC, List.getD, hk])⟩

/-- The grants and the map in every world that the edges' appends make. -/
theorem trow_all {w : World} {ev0 : Value} {e n : Nat} {v : Value} {Y : List V3} (h : w.ownsRow 0 e 3 v n (flat Y)) (hap : Ap v ev0) : ∃ ao c, v = .slice ao n c ∧ ∀ wr : World, w.grownBy wr ev0.ownBlock → TRow wr ao Y := by
  obtain ⟨ao, c, rfl, _, _, _⟩ := own_trow h
  refine ⟨ao, c, rfl, fun wr hg => ?_⟩
  have h2 : wr.ownsRow 0 e 3 (.slice ao n c) n (flat Y) := own_keepV h fun g hg2 => hg.block g (own_lt h g hg2) (fun e => hap g hg2 e.symm)
  obtain ⟨ao', c', e', _, h3, _⟩ := own_trow h2
  obtain ⟨rfl, rfl⟩ : ao = ao' ∧ c = c' := by simpa using e'
  exact h3
theorem map_all {w : World} {ev0 : Value} {b n : Nat} {D : DataW Unit} (h : w.ownsMap Try.prog 3 (plainElem Try.prog 3) b n D) (hne : ev0.ownBlock ≠ some b) : ∀ wr : World, w.grownBy wr ev0.ownBlock → wr.ownsMap Try.prog 3 (plainElem Try.prog 3) b n D :=
  fun wr hg => map_keep h (hg.block b (map_lt h) (fun e => hne e.symm))
end Go.Proofs.Qxb6603412a
