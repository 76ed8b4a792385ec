/-
  THE WALK OF columnsAt.
-/
import Derived.Test.Qxb6602993aColC
import Derived.Deep.CutRange
import Derived.Deep.DeepCutAuto
namespace Go.Proofs.Qxb6602993a
open Go.RowKit
theorem Try.inf3 : (Try.prog.info? 3).map (fun i => (i.zero, i.size, i.bytes)) = some (some (.int .i64 0), 1, 8) := by kernel_rfl

theorem Row.below {w w' : World} {ao : Option Addr} {ss : List ByteArray} (h : Row w ao ss) (hb : Below w.heap.size w w') : Row w' ao ss := by
  rcases h with hh | ⟨b, off, rfl, hc⟩
  · exact .inl hh
  · exact .inr ⟨b, off, rfl, fun j hj => (hb.cell (p := ⟨b, off + j, none⟩) (World.block_lt_of_cell? w ⟨b, off + j, none⟩ (hc j hj))).trans (hc j hj)⟩

theorem Row.sub {w : World} {B : Nat} {ss : List ByteArray} (h : Row w (some ⟨B, 0, none⟩) ss) (r i : Nat) (hi : i ≤ ss.length) : Row w (some ⟨B, r, none⟩) ((ss.take i).drop r) := by
  rcases h with hh | ⟨b, off, e, hc⟩
  · exact .inl (by simp [hh])
  · obtain ⟨rfl, rfl⟩ : B = b ∧ 0 = off := by simpa using e
    refine .inr ⟨B, r, rfl, fun j hj => ?_⟩
    simp at hj
    have := hc (r + j) (by omega)
    rw [Nat.zero_add] at this
    rw [this]
    simp [List.getElem?_drop, show r + j < i by omega]

theorem Row.from {w : World} {B n : Nat} {ss : List ByteArray} (h : Row w (some ⟨B, 0, none⟩) ss) (r : Nat) (hn : ss.length = n) : Row w (if n = r then some ⟨B, 0, none⟩ else some ⟨B, r, none⟩) (ss.drop r) := by
  by_cases e : n = r
  · exact .inl (List.drop_of_length_le (by omega))
  · rw [if_neg e]
    have := h.sub r ss.length (Nat.le_refl _)
    rwa [List.take_length] at this

theorem Row.take {w : World} {ao : Option Addr} {ss : List ByteArray} (h : Row w ao ss) (r : Nat) : Row w ao (ss.take r) := by
  rcases h with hh | ⟨b, off, rfl, hc⟩
  · exact .inl (by simp [hh])
  · refine .inr ⟨b, off, rfl, fun j hj => ?_⟩
    simp at hj
    rw [hc j (by omega)]
    simp [show j < r by omega]

theorem bs_take (ss : List ByteArray) (r : Nat) : bs (ss.take r) = (bs ss).take r := by simp [bs]
theorem bs_drop (ss : List ByteArray) (r : Nat) : bs (ss.drop r) = (bs ss).drop r := by simp [bs]

theorem eqTo_take (S T : List (List UInt8)) (r : Nat) : EqTo (S.take r) (T.take r) r ↔ EqTo S T r := by
  unfold EqTo
  constructor
  · intro h i hi
    have := h i hi
    simpa [List.getD, hi] using this
  · intro h i hi
    have := h i hi
    simpa [List.getD, hi] using this

/-- What 'at' holds at place i. -/
def atv (G H : List (List UInt8)) (r i : Nat) : Int := if i < r then (i : Int) else (r : Int) + (fi (G.getD i []) (H.drop r) : Int)

/-- .. after k rounds, the rest zero. -/
def halfI (f : Nat → Int) (n k : Nat) : List Int := (List.range n).map fun j => if j < k then f j else 0
theorem halfI_len (f : Nat → Int) (n k : Nat) : (halfI f n k).length = n := by simp [halfI]
theorem halfI_zero (f : Nat → Int) (n : Nat) : (halfI f n 0).map (Value.int .i64) = List.replicate n (Value.int .i64 0) := by
  apply List.ext_getElem
  · simp [halfI]
  · intro i h1 h2; simp [halfI]
theorem halfI_set (f : Nat → Int) (n k : Nat) : (halfI f n k).set k (f k) = halfI f n (k + 1) := by
  apply List.ext_getElem
  · simp [halfI]
  · intro i h1 h2
    rw [List.getElem_set]
    simp only [halfI, List.getElem_map, List.getElem_range]
    by_cases h : k = i
    · subst h; simp
    · rw [if_neg h]
      by_cases h3 : i < k
      · rw [if_pos h3, if_pos (by omega)]
      · rw [if_neg h3, if_neg (by omega)]
theorem halfI_at (f : Nat → Int) (n k j : Nat) (h : j < n) : ((halfI f n k).map (Value.int .i64))[j]? = some (.int .i64 (if j < k then f j else 0)) := by
  simp [halfI, h]

/-- The state of 'at' in the loops. -/
def AtSt (f : Nat → Int) (w : World) (n k : Nat) (wr : World) : Prop :=
  wr.ownsRow w.heap.size 3 1 (.slice (some ⟨w.heap.size, 0, none⟩) n n) n ((halfI f n k).map (Value.int .i64)) ∧ Below w.heap.size w wr

theorem AtSt.drewN {f : Nat → Int} {w : World} {n k : Nat} {wr : World} (h : AtSt f w n k wr) (m : Nat) : AtSt f w n k (wr.drewN m) := ⟨h.1, below_drewN h.2 m⟩
theorem AtSt.store {f : Nat → Int} {w : World} {n k : Nat} {wr : World} (h : AtSt f w n k wr) {v : Int} (hv : v = f k) : AtSt f w n (k + 1) (wr.setCell ⟨w.heap.size, k, none⟩ (.int .i64 v)) := by
  subst hv
  refine ⟨?_, h.2.setCell (Nat.le_refl _) _⟩
  have := (h.1.stored k (.int .i64 (f k))).1
  rw [← halfI_set f n k, List.map_set]
  exact this
theorem AtSt.cell {f : Nat → Int} {w : World} {n k : Nat} {wr : World} (h : AtSt f w n k wr) {j : Nat} (hj : j < n) : wr.cell? ⟨w.heap.size, j, none⟩ = some (.int .i64 (if j < k then f j else 0)) := by
  rw [h.1.cellAt j (by omega)]; exact halfI_at f n k j hj

/-- How columnsAt ends. -/
def ColEnd (G H : List (List UInt8)) (r n : Nat) (w : World) (e : Ending) (w' : World) : Prop :=
  ((¬ Acc G H r ∧ e = .returned (.tuple #[.slice none 0 0, .bool false])) ∨
   (Acc G H r ∧ e = .returned (.tuple #[.slice (some ⟨w.heap.size, 0, none⟩) n n, .bool true]) ∧ (∀ i, i < n → w'.cell? ⟨w.heap.size, i, none⟩ = some (.int .i64 (atv G H r i))))) ∧ Below w.heap.size w w'

theorem equal_yes {ao ao' : Option Addr} {n c c' : Nat} {ss tt : List ByteArray} (w : World) (hn : ss.length = n) (hn' : tt.length = n) (hm : n ≤ 1048576) (hr : Row w ao ss) (hr' : Row w ao' tt) (h : EqTo (bs ss) (bs tt) n) :
    Calls Try.prog 27 #[.slice ao n c, .slice ao' n c'] w fun e w' => e = .returned (.bool true) ∧ ∃ m, w' = w.drewN m :=
  (equal_any ao ao' n c c' ss tt w hn hn' hm hr hr').mono fun e w' ⟨v, he, hv, hw⟩ => ⟨by rw [he, hv.2 h], hw⟩
theorem equal_no {ao ao' : Option Addr} {n c c' : Nat} {ss tt : List ByteArray} (w : World) (hn : ss.length = n) (hn' : tt.length = n) (hm : n ≤ 1048576) (hr : Row w ao ss) (hr' : Row w ao' tt) (h : ¬ EqTo (bs ss) (bs tt) n) :
    Calls Try.prog 27 #[.slice ao n c, .slice ao' n c'] w fun e w' => e = .returned (.bool false) ∧ ∃ m, w' = w.drewN m :=
  (equal_any ao ao' n c c' ss tt w hn hn' hm hr hr').mono fun e w' ⟨v, he, hv, hw⟩ => ⟨by
    rw [he]
    cases v
    · rfl
    · exact absurd (hv.1 rfl) h, hw⟩

/-- A repeated name among the later ones ahead of i. -/
theorem rep_iff {G : List (List UInt8)} {r i : Nat} (hi : i ≤ G.length) (x : List UInt8) : fi x ((G.take i).drop r) < ((G.take i).drop r).length ↔ ∃ m, r ≤ m ∧ m < i ∧ G.getD m [] = x := by
  have hg : ∀ k, r + k < i → ((G.take i).drop r).getD k [] = G.getD (r + k) [] := by
    intro k hk
    rw [getD_drop]
    simp [List.getD, hk]
  constructor
  · intro h
    have h1 := fi_at x _ h
    simp at h
    rw [hg _ (by omega)] at h1
    exact ⟨_, by omega, by omega, h1⟩
  · rintro ⟨m, h1, h2, h3⟩
    refine fi_lt (m := m - r) (by simp; omega) ?_
    rw [hg _ (by omega), show r + (m - r) = m by omega]; exact h3
end Go.Proofs.Qxb6602993a
