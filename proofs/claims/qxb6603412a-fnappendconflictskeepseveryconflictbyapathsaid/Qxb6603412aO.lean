/-
  THE TOP OF FnAppendConflictsKeepsEveryConflictByAPath: up to the calls.
-/
import Derived.Test.Qxb6603412aH
import Derived.Test.Qxb6603412aQ
namespace Go.Proofs.Qxb6603412a
open Go.RowKit Go.Maps
set_option linter.unusedVariables false

set_option maxRecDepth 100000 in
set_option maxHeartbeats 4000000 in
theorem top4_guard (pg : Int) (ao : Option Addr) (n c : Nat) (G : List (Int × Int × Bool)) (mv : Value) (L : Nat) (w : World) (hM : MapIn G n mv L w) (hnG : n ≤ maxLen)
    (h : 256 < n ∨ (n ≤ 256 ∧ 1048576 < L) ∨ (n ≤ 256 ∧ L ≤ 1048576 ∧ 1048576 < 24 * n + 16 * L)) :
    Calls Try.prog 4 #[.int .i64 pg, .slice ao n c, mv] w fun e w' => e = .returned (.bool true) ∧ Below w.heap.size w w' := by
  have hlm := hM.len
  clear hM
  unfold maxLen at hnG
  go_enter Try.func4, Try.ntmps4
  rcases h with h | ⟨h1, h2⟩ | ⟨h1, h2, h3⟩
  · go_wp2
    go_ret
    exact ⟨rfl, Below.refl _ _⟩
  · go_wp2
    go_ret
    exact ⟨rfl, Below.refl _ _⟩
  · go_wp2
    go_ret
    exact ⟨rfl, Below.refl _ _⟩

/-- Behind the calls. -/
structure P1 (w : World) (ag at_ aw ai : Option Addr) (Et : List (Int × Int × Int)) (K : List (Int × Bool)) (ids : List Int) (w7 : World) : Prop where
  b : Below w.heap.size w w7
  g : TRow w7 ag (Et.map eV)
  t : IRow w7 at_ (tC K)
  x : IRow w7 aw (wC K)
  i : IRow w7 ai (iC ids)
theorem P1.below {w : World} {ag at_ aw ai : Option Addr} {Et : List (Int × Int × Int)} {K : List (Int × Bool)} {ids : List Int} {w7 w8 : World} (h : P1 w ag at_ aw ai Et K ids w7) (hb : Below w7.heap.size w7 w8) : P1 w ag at_ aw ai Et K ids w8 :=
  ⟨h.b.trans (hb.mono h.b.size), h.g.below hb, h.t.below hb, h.x.below hb, h.i.below hb⟩
/-- A row of positions of the call's own; w0: the world before it was made. -/
structure RowN (w0 : World) (g n : Nat) (xs : List Nat) (wr : World) : Prop where
  own : wr.ownsRow 0 3 1 (.slice (some ⟨g, 0, none⟩) n n) n (nC xs)
  ge : w0.heap.size ≤ g
  b : Below w0.heap.size w0 wr
section
variable {w0 : World} {g n : Nat} {xs : List Nat} {wr : World}
theorem RowN.len (h : RowN w0 g n xs wr) : xs.length = n := by have := h.own.1; rw [nC_len] at this; omega
theorem RowN.cell (h : RowN w0 g n xs wr) {j : Nat} (hj : j < n) : wr.cell? ⟨g, j, none⟩ = some (.int .i64 ((xs.getD j 0 : Nat) : Int)) := by
  have hl := h.len
  rw [World.ownsRow.cellAt h.own j (by omega)]
  simp [nC, List.getD, show j < xs.length by omega]
theorem RowN.frozen (h : RowN w0 g n xs wr) (j : Nat) : wr.frozen? ⟨g, j, none⟩ = false := World.ownsRow.frozenAt h.own j
theorem RowN.set (h : RowN w0 g n xs wr) (j x : Nat) : RowN w0 g n (xs.set j x) (wr.setCell ⟨g, j, none⟩ (.int .i64 (x : Int))) :=
  ⟨by rw [← nC_set]; exact (World.ownsRow.stored h.own j _).1, h.ge, h.b.setCell h.ge _⟩
end
/-- A row of Booleans of the call's own. -/
structure RowB (w0 : World) (g n : Nat) (xs : List Bool) (wr : World) : Prop where
  own : wr.ownsRow 0 4 1 (.slice (some ⟨g, 0, none⟩) n n) n (bC xs)
  ge : w0.heap.size ≤ g
  b : Below w0.heap.size w0 wr
section
variable {w0 : World} {g n : Nat} {xs : List Bool} {wr : World}
theorem RowB.len (h : RowB w0 g n xs wr) : xs.length = n := by have := h.own.1; rw [bC_len] at this; omega
theorem RowB.cell (h : RowB w0 g n xs wr) {j : Nat} (hj : j < n) : wr.cell? ⟨g, j, none⟩ = some (.bool (xs.getD j false)) := by
  have hl := h.len
  rw [World.ownsRow.cellAt h.own j (by omega)]
  simp [bC, List.getD, show j < xs.length by omega]
theorem RowB.frozen (h : RowB w0 g n xs wr) (j : Nat) : wr.frozen? ⟨g, j, none⟩ = false := World.ownsRow.frozenAt h.own j
theorem RowB.set (h : RowB w0 g n xs wr) (j : Nat) (x : Bool) : RowB w0 g n (xs.set j x) (wr.setCell ⟨g, j, none⟩ (.bool x)) :=
  ⟨by rw [← bC_set]; exact (World.ownsRow.stored h.own j _).1, h.ge, h.b.setCell h.ge _⟩
theorem RowB.drewN (h : RowB w0 g n xs wr) (m : Nat) : RowB w0 g n xs (wr.drewN m) := ⟨h.own, h.ge, below_drewN h.b m⟩
end
theorem tC_iC (K : List (Int × Bool)) : tC K = iC (K.map Prod.fst) := by simp [tC, iC]
end Go.Proofs.Qxb6603412a
