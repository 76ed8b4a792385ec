/-
  MEMORY OF LAW 4: the slices of slices; the search's two rows.
-/
import Derived.Test.Qxb6603412aL
import Derived.Test.Qxb6603412aM
namespace Go.Proofs.Qxb6603412a
open Go.RowKit Go.Maps
set_option linter.unusedVariables false

/-- The cells of a list of positions; of a list of Booleans. -/
def nC (xs : List Nat) : List Value := xs.map fun (n : Nat) => .int .i64 (n : Int)
def bC (xs : List Bool) : List Value := xs.map Value.bool
theorem nC_len (xs : List Nat) : (nC xs).length = xs.length := by simp [nC]
theorem bC_len (xs : List Bool) : (bC xs).length = xs.length := by simp [bC]
theorem bC_set (xs : List Bool) (j : Nat) (x : Bool) : (bC xs).set j (.bool x) = bC (xs.set j x) := by simp [bC, List.map_set]
theorem nC_set (xs : List Nat) (j : Nat) (x : Nat) : (nC xs).set j (.int .i64 (x : Int)) = nC (xs.set j x) := by simp [nC, List.map_set]

/-- The outer row in block g, the inner rows each in a block of its own above it. -/
structure Adj (g d : Nat) (V : List Value) (A : List (List Nat)) (wr : World) : Prop where
  out : wr.ownsRow 0 28 1 (.slice (some ⟨g, 0, none⟩) d d) d V
  len : A.length = d
  own : ∀ a, a < d → wr.ownsRow 0 3 1 (V.getD a undef) (A.getD a []).length (nC (A.getD a []))
  fr : ∀ a q, a < d → (V.getD a undef).ownBlock = some q → g < q
  ap : ∀ a b, a < d → b < d → a ≠ b → Ap (V.getD a undef) (V.getD b undef)

section
variable {g d : Nat} {V : List Value} {A : List (List Nat)} {wr : World}
theorem Adj.vlen (h : Adj g d V A wr) : V.length = d := by have := h.out.1; omega
theorem Adj.cell (h : Adj g d V A wr) {a : Nat} (ha : a < d) : wr.cell? ⟨g, a, none⟩ = some (V.getD a undef) := by
  have := h.vlen
  rw [World.ownsRow.cellAt h.out a (by omega)]
  simp [List.getD, show a < V.length by omega]
theorem Adj.frozen (h : Adj g d V A wr) (a : Nat) : wr.frozen? ⟨g, a, none⟩ = false := World.ownsRow.frozenAt h.out a
theorem Adj.glt (h : Adj g d V A wr) : g < wr.heap.size := own_lt h.out g rfl
theorem Adj.below (h : Adj g d V A wr) {w' : World} (hb : Below wr.heap.size wr w') : Adj g d V A w' :=
  ⟨own_keepV h.out fun q hq => hb.block q (own_lt h.out q hq), h.len, fun a ha => own_keepV (h.own a ha) fun q hq => hb.block q (own_lt (h.own a ha) q hq), h.fr, h.ap⟩

/-- One append to the inner row a. -/
theorem Adj.push (h : Adj g d V A wr) {a n : Nat} (ha : a < d) {o : Obj} {w1 : World} {q c : Nat}
    (hown : w1.ownsRow 0 3 1 (.slice (some ⟨q, 0, none⟩) ((A.getD a []).length + 1) c) ((A.getD a []).length + 1) (nC (A.getD a []) ++ [.int .i64 (n : Int)])) (hg : (wr.alloc o).grownBy w1 (V.getD a undef).ownBlock)
    (hloc : (V.getD a undef).ownBlock = some q ∨ q = wr.heap.size + 1) (hlt : q < w1.heap.size) :
    Adj g d (V.set a (.slice (some ⟨q, 0, none⟩) ((A.getD a []).length + 1) c)) (A.set a (A.getD a [] ++ [n])) (w1.setCell ⟨g, a, none⟩ (.slice (some ⟨q, 0, none⟩) ((A.getD a []).length + 1) c)) := by
  have hgl := h.glt
  have hvl := h.vlen
  have hgq : g < q := by
    rcases hloc with e | e
    · exact h.fr a q ha e
    · omega
  have hng : (V.getD a undef).ownBlock ≠ some g := fun e => by have := h.fr a g ha e; omega
  have hout1 : w1.ownsRow 0 28 1 (.slice (some ⟨g, 0, none⟩) d d) d V := own_keepV h.out fun z hz => by
    obtain rfl : g = z := by rw [ob_slice] at hz; simpa using hz
    rw [hg.block g (by simp; omega) (fun e => hng e.symm), Below.heap_alloc _ _ _ hgl]
  have hst := (World.ownsRow.stored hout1 a (.slice (some ⟨q, 0, none⟩) ((A.getD a []).length + 1) c)).1
  have hVa : (V.set a (.slice (some ⟨q, 0, none⟩) ((A.getD a []).length + 1) c)).getD a undef = .slice (some ⟨q, 0, none⟩) ((A.getD a []).length + 1) c := by simp [List.getD, show a < V.length by omega]
  have hAa : (A.set a (A.getD a [] ++ [n])).getD a [] = A.getD a [] ++ [n] := by simp [List.getD, show a < A.length by have := h.len; omega]
  have hVo : ∀ z, z ≠ a → (V.set a (.slice (some ⟨q, 0, none⟩) ((A.getD a []).length + 1) c)).getD z undef = V.getD z undef := fun z hz => by simp only [List.getD, List.getElem?_set, if_neg (show ¬ a = z from fun e => hz e.symm)]
  have hAo : ∀ z, z ≠ a → (A.set a (A.getD a [] ++ [n])).getD z [] = A.getD z [] := fun z hz => by simp only [List.getD, List.getElem?_set, if_neg (show ¬ a = z from fun e => hz e.symm)]
  refine ⟨hst, by rw [List.length_set]; exact h.len, fun z hz => ?_, fun z y hz hy => ?_, fun z y hz hy hne => ?_⟩
  · by_cases e : z = a
    · subst e
      rw [hVa, hAa]
      have h2 : (w1.setCell ⟨g, z, none⟩ (.slice (some ⟨q, 0, none⟩) ((A.getD z []).length + 1) c)).ownsRow 0 3 1 (.slice (some ⟨q, 0, none⟩) ((A.getD z []).length + 1) c) ((A.getD z []).length + 1) (nC (A.getD z []) ++ [.int .i64 (n : Int)]) := own_keepV hown fun y hy => by
        obtain rfl : q = y := by rw [ob_slice] at hy; simpa using hy
        exact Below.heap_setCell _ _ _ _ (by show q ≠ g; omega)
      rw [List.length_append, nC, List.map_append]
      exact h2
    · rw [hVo z e, hAo z e]
      refine own_keepV (h.own z hz) fun y hy => ?_
      have hyl := own_lt (h.own z hz) y hy
      have hyg := h.fr z y hz hy
      rw [Below.heap_setCell _ _ _ _ (by show y ≠ g; omega), hg.block y (by simp; omega) (fun e2 => h.ap z a hz ha e y hy e2.symm), Below.heap_alloc _ _ _ hyl]
  · by_cases e : z = a
    · subst e
      rw [hVa, ob_slice] at hy
      obtain rfl : q = y := by simpa using hy
      exact hgq
    · rw [hVo z e] at hy
      exact h.fr z y hz hy
  · intro x hx hx2
    by_cases e : z = a
    · subst e
      rw [hVa, ob_slice] at hx
      obtain rfl : q = x := by simpa using hx
      rw [hVo y (fun e => hne e.symm)] at hx2
      rcases hloc with e1 | e1
      · exact h.ap z y hz hy hne q e1 hx2
      · have := own_lt (h.own y hy) q hx2; omega
    · rw [hVo z e] at hx
      by_cases e3 : y = a
      · subst e3
        rw [hVa, ob_slice] at hx2
        obtain rfl : q = x := by simpa using hx2
        rcases hloc with e1 | e1
        · exact h.ap z y hz hy hne q hx e1
        · have := own_lt (h.own z hz) q hx; omega
      · rw [hVo y e3] at hx2
        exact h.ap z y hz hy hne x hx hx2
end

/-- One row of positions, read. -/
theorem irow_n {w : World} {ao : Option Addr} {xs : List Nat} (h : IRow w ao (nC xs)) {k : Nat} (hk : k < xs.length) : ∃ b off, ao = some ⟨b, off, none⟩ ∧ w.cell? ⟨b, off + k, none⟩ = some (.int .i64 ((xs.getD k 0 : Nat) : Int)) := by
  rcases h with hh | ⟨b, off, rfl, hc⟩
  · have := congrArg List.length hh; simp [nC] at this; subst this; simp at hk
  · exact ⟨b, off, rfl, hc k _ (by simp [nC, List.getD, hk])⟩
theorem irow_b {w : World} {ao : Option Addr} {xs : List Bool} (h : IRow w ao (bC xs)) {k : Nat} (hk : k < xs.length) : ∃ b off, ao = some ⟨b, off, none⟩ ∧ w.cell? ⟨b, off + k, none⟩ = some (.bool (xs.getD k false)) := by
  rcases h with hh | ⟨b, off, rfl, hc⟩
  · have := congrArg List.length hh; simp [bC] at this; subst this; simp at hk
  · exact ⟨b, off, rfl, hc k _ (by simp [bC, List.getD, hk])⟩

/-- The slices of slices, read. -/
def ARow (w : World) (g d : Nat) (A : List (List Nat)) : Prop :=
  ∀ a, a < d → ∃ ar cr, w.cell? ⟨g, a, none⟩ = some (.slice ar (A.getD a []).length cr) ∧ IRow w ar (nC (A.getD a []))
theorem Adj.row {g d : Nat} {V : List Value} {A : List (List Nat)} {wr : World} (h : Adj g d V A wr) : ARow wr g d A := fun a ha => by
  obtain ⟨ar, cr, e, hi⟩ := own_irow (h.own a ha)
  exact ⟨ar, cr, by rw [h.cell ha, e], hi⟩
theorem ARow.below {w w' : World} {g d : Nat} {A : List (List Nat)} (h : ARow w g d A) (hb : Below w.heap.size w w') : ARow w' g d A := fun a ha => by
  obtain ⟨ar, cr, h1, h2⟩ := h a ha
  exact ⟨ar, cr, (hb.cell (p := ⟨g, a, none⟩) (World.block_lt_of_cell? w _ h1)).trans h1, h2.below hb⟩

/-- The search's two rows; w0: the world before they were made. -/
structure BF (w0 : World) (gs d : Nat) (seen : List Bool) (Q : List Nat) (qv : Value) (wr : World) : Prop where
  s : wr.ownsRow 0 4 1 (.slice (some ⟨gs, 0, none⟩) d d) d (bC seen)
  q : wr.ownsRow 0 3 1 qv Q.length (nC Q)
  sb : w0.heap.size ≤ gs
  qb : ∀ g, qv.ownBlock = some g → w0.heap.size ≤ g
  ap : qv.ownBlock ≠ some gs
  b : Below w0.heap.size w0 wr

section
variable {w0 : World} {gs d : Nat} {seen : List Bool} {Q : List Nat} {qv : Value} {wr : World}
theorem BF.slen (h : BF w0 gs d seen Q qv wr) : seen.length = d := by have := h.s.1; rw [bC_len] at this; omega
theorem BF.cell (h : BF w0 gs d seen Q qv wr) {x : Nat} (hx : x < d) : wr.cell? ⟨gs, x, none⟩ = some (.bool (seen.getD x false)) := by
  have hl := h.slen
  rw [World.ownsRow.cellAt h.s x (by omega)]
  simp [bC, List.getD, show x < seen.length by omega]
theorem BF.frozen (h : BF w0 gs d seen Q qv wr) (x : Nat) : wr.frozen? ⟨gs, x, none⟩ = false := World.ownsRow.frozenAt h.s x
theorem BF.mark (h : BF w0 gs d seen Q qv wr) (x : Nat) (v : Bool) : BF w0 gs d (seen.set x v) Q qv (wr.setCell ⟨gs, x, none⟩ (.bool v)) :=
  ⟨by rw [← bC_set]; exact (World.ownsRow.stored h.s x _).1, own_keepV h.q fun z hz => Below.heap_setCell _ _ _ _ (fun e => h.ap (by rw [← show z = gs from e]; exact hz)), h.sb, h.qb, h.ap, h.b.setCell h.sb _⟩
theorem BF.push (h : BF w0 gs d seen Q qv wr) {n g c : Nat} {o : Obj} {w1 : World}
    (hown : w1.ownsRow 0 3 1 (.slice (some ⟨g, 0, none⟩) (Q.length + 1) c) (Q.length + 1) (nC Q ++ [.int .i64 (n : Int)])) (hg : (wr.alloc o).grownBy w1 qv.ownBlock) (hloc : qv.ownBlock = some g ∨ g = wr.heap.size + 1) :
    BF w0 gs d seen (Q ++ [n]) (.slice (some ⟨g, 0, none⟩) (Q.length + 1) c) w1 := by
  have hsz := h.b.size
  have hgs := own_lt h.s gs rfl
  refine ⟨?_, ?_, h.sb, fun z hz => ?_, ?_, ?_⟩
  · refine own_keepV h.s fun z hz => ?_
    obtain rfl : gs = z := by rw [ob_slice] at hz; simpa using hz
    rw [hg.block gs (by simp; omega) (fun e => h.ap e.symm), Below.heap_alloc _ _ _ hgs]
  · rw [List.length_append, nC, List.map_append]; exact hown
  · obtain rfl : g = z := by rw [ob_slice] at hz; simpa using hz
    rcases hloc with e | e
    · exact h.qb _ e
    · omega
  · rw [ob_slice]
    intro e
    obtain rfl : g = gs := by simpa using e
    rcases hloc with e1 | e1
    · exact h.ap e1
    · omega
  · exact (h.b.alloc hsz o).grown hg (by simp; omega) h.qb
theorem BF.cut {g n c : Nat} (h : BF w0 gs d seen Q (.slice (some ⟨g, 0, none⟩) n c) wr) (hn : Q.length = n) : BF w0 gs d seen [] (.slice (some ⟨g, 0, none⟩) 0 c) wr := by
  subst hn
  exact ⟨h.s, own_cut h.q, h.sb, h.qb, h.ap, h.b⟩
end
end Go.Proofs.Qxb6603412a
