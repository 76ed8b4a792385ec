/-
  appendConflicts: the plain function, and what its walk carries.
-/
import Derived.Test.Qxb6603412aC
namespace Go.Proofs.Qxb6603412a
open Go.RowKit Go.Maps
set_option linter.unusedVariables false

/-- The edge from the last exclusive lock, if any. -/
def e1 (pg wtr t : Int) : List (Int × Int × Int) := if 0 ≤ wtr ∧ wtr ≠ t then [(wtr, t, pg)] else []
/-- The edges from the shared locks since. -/
def e2 (pg t : Int) (rd : List Int) : List (Int × Int × Int) := (rd.filter fun r => r != t).map fun r => (r, t, pg)
/-- What appendConflicts appends, the kept locks ahead. -/
def ac (pg : Int) : List (Int × Bool) → Int → List Int → List (Int × Int × Int)
  | [], _, _ => []
  | (t, x) :: K, wtr, rd => e1 pg wtr t ++ if x then e2 pg t rd ++ ac pg K t [] else ac pg K wtr (rd ++ [t])

theorem e1_len (pg wtr t : Int) : (e1 pg wtr t).length ≤ 1 := by unfold e1; split <;> simp
theorem e2_len (pg t : Int) (rd : List Int) : (e2 pg t rd).length ≤ rd.length := by
  unfold e2; rw [List.length_map]; exact List.length_filter_le _ _
theorem ac_len (pg : Int) : ∀ (K : List (Int × Bool)) (wtr : Int) (rd : List Int), (ac pg K wtr rd).length ≤ 2 * K.length + rd.length
  | [], _, _ => by simp [ac]
  | (t, x) :: K, wtr, rd => by
    have h1 := e1_len pg wtr t
    have h2 := e2_len pg t rd
    cases x
    · have := ac_len pg K wtr (rd ++ [t])
      simp [ac] at this ⊢; omega
    · have := ac_len pg K t []
      simp [ac] at this ⊢; omega

theorem kept_drop {D : DataW Unit} {G : List (Int × Int × Bool)} {k : Nat} (hk : k < G.length) {g : Int × Int × Bool} (e : G.getD k (0, 0, false) = g) :
    kept D (G.drop k) = if keptB D g then (g.1, g.2.2) :: kept D (G.drop (k + 1)) else kept D (G.drop (k + 1)) := by
  have : G.drop k = g :: G.drop (k + 1) := by
    rw [List.drop_eq_getElem_cons hk]
    congr 1
    rw [← e]; simp [List.getD, hk]
  rw [this]
  unfold kept
  rw [List.filter_cons]
  split <;> simp

/-- The state: the edges, the readers. -/
structure AC (w0 : World) (ev0 : Value) (E : List (Int × Int × Int)) (ev : Value) (R : List Int) (rv : Value) (wr : World) : Prop where
  e : wr.ownsRow 0 40 3 ev E.length (flat (E.map eV))
  r : wr.ownsRow 0 3 1 rv R.length (R.map (Value.int .i64))
  gr : w0.grownBy wr ev0.ownBlock
  eb : ∀ g, ev.ownBlock = some g → ev0.ownBlock = some g ∨ w0.heap.size ≤ g
  rb : ∀ g, rv.ownBlock = some g → w0.heap.size ≤ g
  ap : Ap ev rv

section
variable {w0 : World} {ev0 : Value} {E : List (Int × Int × Int)} {ev : Value} {R : List Int} {rv : Value} {wr : World}

theorem grown_on {a b c : World} {row r2 : Option Nat} (h : a.grownBy b row) (k : b.grownBy c r2) (hr : ∀ g, r2 = some g → row = some g ∨ a.heap.size ≤ g) : a.grownBy c row :=
  ⟨k.os.trans h.os, k.tape.trans h.tape, k.output.trans h.output, Nat.le_trans h.size k.size, fun i hi hne => (k.block i (Nat.lt_of_lt_of_le hi h.size) (fun e => by
    rcases hr i e.symm with h1 | h1
    · exact hne h1.symm
    · omega)).trans (h.block i hi hne)⟩

theorem AC.alloc (h : AC w0 ev0 E ev R rv wr) (o : Obj) : AC w0 ev0 E ev R rv (wr.alloc o) :=
  ⟨h.e.alloc o, h.r.alloc o, grown_on h.gr (World.grownBy_alloc wr o none) (by rintro g ⟨⟩), h.eb, h.rb, h.ap⟩
theorem AC.drewN (h : AC w0 ev0 E ev R rv wr) (n : Nat) : AC w0 ev0 E ev R rv (wr.drewN n) :=
  ⟨h.e, h.r, ⟨h.gr.os, h.gr.tape, h.gr.output, h.gr.size, h.gr.block⟩, h.eb, h.rb, h.ap⟩

/-- Cells of a block that neither slice owns. -/
theorem grown_cell {a b : World} {row : Option Nat} (h : a.grownBy b row) {S : Nat} (hS : S < a.heap.size) (hne : row ≠ some S) (j : Nat) : b.cell? ⟨S, j, none⟩ = a.cell? ⟨S, j, none⟩ :=
  World.cell?_of_block (h.block S hS (fun e => hne e.symm))

theorem AC.pushE {w1 : World} {o : Obj} {g c : Nat} {f t p : Int} (h : AC w0 ev0 E ev R rv wr)
    (hown : w1.ownsRow 0 40 3 (.slice (some ⟨g, 0, none⟩) (E.length + 1) c) (E.length + 1) (flat (E.map eV) ++ [.int .i64 f, .int .i64 t, .int .i64 p])) (hg : (wr.alloc o).grownBy w1 ev.ownBlock)
    (hloc : ev.ownBlock = some g ∨ g = wr.heap.size + 1) : AC w0 ev0 (E ++ [(f, t, p)]) (.slice (some ⟨g, 0, none⟩) (E.length + 1) c) R rv w1 := by
  have hsz := h.gr.size
  refine ⟨?_, ?_, grown_on (h.alloc o).gr hg h.eb, ?_, h.rb, ?_⟩
  · rw [List.map_append, flat_append]
    simpa [flat, eV] using hown
  · refine own_keepV h.r fun q hq => ?_
    have hlt := own_lt h.r q hq
    rw [hg.block q (by simp; omega) (fun e => h.ap q e.symm hq), Below.heap_alloc _ _ _ hlt]
  · intro q hq
    rw [ob_slice] at hq
    obtain rfl : g = q := by simpa using hq
    rcases hloc with e | e
    · exact h.eb _ e
    · exact .inr (by omega)
  · intro q hq
    rw [ob_slice] at hq
    obtain rfl : g = q := by simpa using hq
    rcases hloc with e | e
    · exact h.ap _ e
    · intro e2; have := own_lt h.r _ e2; omega

theorem AC.pushR {w1 : World} {o : Obj} {g c : Nat} {t : Int} (h : AC w0 ev0 E ev R rv wr)
    (hown : w1.ownsRow 0 3 1 (.slice (some ⟨g, 0, none⟩) (R.length + 1) c) (R.length + 1) (R.map (Value.int .i64) ++ [.int .i64 t])) (hg : (wr.alloc o).grownBy w1 rv.ownBlock)
    (hloc : rv.ownBlock = some g ∨ g = wr.heap.size + 1) : AC w0 ev0 E ev (R ++ [t]) (.slice (some ⟨g, 0, none⟩) (R.length + 1) c) w1 := by
  have hsz := h.gr.size
  refine ⟨?_, ?_, grown_on (h.alloc o).gr hg (fun q hq => .inr (h.rb q hq)), h.eb, ?_, ?_⟩
  · refine own_keepV h.e fun q hq => ?_
    have hlt := own_lt h.e q hq
    rw [hg.block q (by simp; omega) (fun e => h.ap q hq e.symm), Below.heap_alloc _ _ _ hlt]
  · simpa using hown
  · intro q hq
    rw [ob_slice] at hq
    obtain rfl : g = q := by simpa using hq
    rcases hloc with e | e
    · exact h.rb _ e
    · omega
  · intro q hq e2
    rw [ob_slice] at e2
    obtain rfl : g = q := by simpa using e2
    rcases hloc with e | e
    · exact h.ap _ hq e
    · have := own_lt h.e _ hq; omega
end

theorem own_cut {w : World} {e g n c : Nat} {xs : List Value} (h : w.ownsRow 0 e 1 (.slice (some ⟨g, 0, none⟩) n c) n xs) : w.ownsRow 0 e 1 (.slice (some ⟨g, 0, none⟩) 0 c) 0 [] := by
  obtain ⟨h1, h | ⟨g', c', cur, e', hb, hh, h2, h3, h4, h5⟩⟩ := h
  · cases h.1
  · simp at e'
    obtain ⟨rfl, rfl⟩ := e'
    exact ⟨rfl, .inr ⟨g, c, cur, rfl, hb, hh, Nat.zero_le _, h3, h4, by simp⟩⟩

theorem news3 (wr : World) (a b c : Value) (ty : TypeId) : ∀ j u, [a, b, c][j]? = some u → (wr.alloc (.cells #[a, b, c] ty)).cell? ((⟨wr.heap.size, 0, none⟩ : Addr).add j) = some u := by
  intro j u hj
  match j, hj with
  | 0, hj => simp at hj; subst hj; simp [Addr.add]
  | 1, hj => simp at hj; subst hj; simp [Addr.add]
  | 2, hj => simp at hj; subst hj; simp [Addr.add]
theorem three_int (a b c : Int) : ∀ u ∈ [Value.int .i64 a, .int .i64 b, .int .i64 c], u.oneCell' = true := by
  intro u hu; simp at hu; rcases hu with rfl | rfl | rfl <;> rfl

/-- How appendConflicts ends. -/
def AEnd (Et : List (Int × Int × Int)) (w0 : World) (ev0 : Value) (e : Ending) (w' : World) : Prop :=
  ∃ ev, e = .returned ev ∧ w'.ownsRow 0 40 3 ev Et.length (flat (Et.map eV)) ∧ w0.grownBy w' ev0.ownBlock ∧ ∀ g, ev.ownBlock = some g → ev0.ownBlock = some g ∨ w0.heap.size ≤ g
end Go.Proofs.Qxb6603412a
