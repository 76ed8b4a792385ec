/-
  PLAIN: the breadth-first search's invariant. No program.
-/
import Derived.Test.Qxb6603412aJ
namespace Go.Proofs.Qxb6603412a
set_option linter.unusedVariables false

theorem nodup_le : ∀ (d : Nat) (l : List Nat), l.Nodup → (∀ x ∈ l, x < d) → l.length ≤ d
  | 0, l, _, h => by
    cases l with
    | nil => simp
    | cons a r => have := h a (List.mem_cons_self ..); omega
  | d + 1, l, hn, h => by
    have h1 := nodup_le d (l.erase d) (hn.erase d) (fun x hx => by
      rw [hn.mem_erase_iff] at hx
      have := h x hx.2
      omega)
    have h2 := List.length_erase (a := d) (l := l)
    rw [h2] at h1
    split at h1 <;> omega

/-- What is seen is what is in the queue. -/
structure Inv (d : Nat) (seen : List Bool) (Q : List Nat) : Prop where
  len : seen.length = d
  iff : ∀ x, seen.getD x false = true ↔ x ∈ Q
  nd : Q.Nodup
  lt : ∀ x ∈ Q, x < d
theorem Inv.le {d : Nat} {seen : List Bool} {Q : List Nat} (h : Inv d seen Q) : Q.length ≤ d := nodup_le d Q h.nd h.lt
theorem Inv.start (d : Nat) : Inv d (List.replicate d false) [] := by
  refine ⟨by simp, fun x => ?_, List.nodup_nil, fun x hx => by simp at hx⟩
  simp only [List.getD, List.getElem?_replicate]
  by_cases h : x < d <;> simp [h]
theorem Inv.push {d : Nat} {seen : List Bool} {Q : List Nat} (h : Inv d seen Q) {b : Nat} (hb : b < d) (hs : seen.getD b false = false) : Inv d (seen.set b true) (Q ++ [b]) := by
  have hnb : b ∉ Q := fun hm => by rw [(h.iff b).2 hm] at hs; cases hs
  refine ⟨by rw [List.length_set]; exact h.len, fun x => ?_, ?_, fun x hx => ?_⟩
  · simp only [List.getD, List.getElem?_set, List.mem_append, List.mem_singleton]
    by_cases e : b = x
    · subst e
      simp [h.len, hb]
    · have := h.iff x
      simp only [List.getD] at this
      rw [if_neg e, this]
      constructor
      · exact .inl
      · rintro (h1 | h1)
        · exact h1
        · exact absurd h1.symm e
  · rw [List.nodup_append]
    refine ⟨h.nd, by simp, ?_⟩
    intro x hx y hy e
    simp at hy
    subst hy; subst e
    exact hnb hx
  · rw [List.mem_append] at hx
    rcases hx with hx | hx
    · exact h.lt x hx
    · simp at hx; subst hx; exact hb
end Go.Proofs.Qxb6603412a
