/-
  PLAIN: columns. No Go text.
-/
import Derived.WalkKit
namespace Go.Proofs.Qxb6602993a

/-- The strings' bytes. -/
def bs (ss : List ByteArray) : List (List UInt8) := ss.map (·.toList)

theorem bs_len (ss : List ByteArray) : (bs ss).length = ss.length := by simp [bs]
theorem bs_at {ss : List ByteArray} {k : Nat} (h : k < ss.length) {y : ByteArray} (hy : ss.getD k ByteArray.empty = y) : (bs ss).getD k [] = y.toList := by
  rw [← hy]; simp [bs, List.getD, h]

/-- The first place of x (the length: nowhere). -/
def fi (x : List UInt8) : List (List UInt8) → Nat
  | [] => 0
  | s :: r => if s = x then 0 else fi x r + 1

theorem drop_at {α : Type} {d : α} {ys : List α} {k : Nat} (h : k < ys.length) : ys.drop k = ys.getD k d :: ys.drop (k + 1) := by
  rw [List.drop_eq_getElem_cons h]
  congr 1
  simp [List.getD, h]

theorem fi_le (x : List UInt8) (l : List (List UInt8)) : fi x l ≤ l.length := by
  induction l with
  | nil => simp [fi]
  | cons s r ih => simp only [fi]; split <;> simp <;> omega
theorem fi_hit {x : List UInt8} {l : List (List UInt8)} {k : Nat} (h : k < l.length) (e : l.getD k [] = x) : fi x (l.drop k) = 0 := by
  rw [drop_at h (d := []), e, fi, if_pos rfl]
theorem fi_miss {x : List UInt8} {l : List (List UInt8)} {k : Nat} (h : k < l.length) (e : l.getD k [] ≠ x) : fi x (l.drop k) = fi x (l.drop (k + 1)) + 1 := by
  rw [drop_at h (d := []), fi, if_neg e]
theorem fi_end {x : List UInt8} {l : List (List UInt8)} {k : Nat} (h : l.length ≤ k) : fi x (l.drop k) = 0 := by
  rw [List.drop_of_length_le h]; rfl
/-- What stands at the place found, and ahead of it. -/
theorem fi_at (x : List UInt8) : ∀ l : List (List UInt8), fi x l < l.length → l.getD (fi x l) [] = x
  | [], h => by simp [fi] at h
  | s :: r, h => by
    simp only [fi] at h ⊢
    split
    · rename_i e; simpa using e
    · rename_i e
      rw [if_neg e] at h
      simpa using fi_at x r (by simpa using h)
theorem fi_before (x : List UInt8) : ∀ (l : List (List UInt8)) (m : Nat), m < fi x l → l.getD m [] ≠ x
  | [], m, h => by simp [fi] at h
  | s :: r, m, h => by
    simp only [fi] at h
    split at h
    · omega
    · rename_i e
      cases m with
      | zero => simpa using e
      | succ m => simpa using fi_before x r m (by omega)
theorem fi_lt {x : List UInt8} {l : List (List UInt8)} {m : Nat} (hm : m < l.length) (e : l.getD m [] = x) : fi x l < l.length := by
  by_cases h : m < fi x l
  · exact absurd e (fi_before x l m h)
  · omega

/-- slices.Index. -/
def idx (x : List UInt8) (l : List (List UInt8)) : Int := if fi x l < l.length then (fi x l : Int) else -1

/-- The documented condition. -/
def Acc (G H : List (List UInt8)) (r : Nat) : Prop :=
  r ≤ G.length ∧ (∀ i, i < r → G.getD i [] = H.getD i []) ∧
    ∀ i, r ≤ i → i < G.length → fi (G.getD i []) (H.drop r) < (H.drop r).length ∧ ∀ m, r ≤ m → m < i → G.getD m [] ≠ G.getD i []

theorem Acc.later {G H : List (List UInt8)} {r : Nat} (h : Acc G H r) (i : Nat) (h1 : r ≤ i) : ∀ m, i < m → m < G.length → G.getD m [] ≠ G.getD i [] :=
  fun m hm hl e => (h.2.2 m (by omega) hl).2 i h1 hm e.symm

theorem getD_drop (l : List (List UInt8)) (r k : Nat) : (l.drop r).getD k [] = l.getD (r + k) [] := by
  simp [List.getD, List.getElem?_drop]
end Go.Proofs.Qxb6602993a
