/-
  THE LAW FnAppendConflictsKeepsEveryConflictByAPath: the row.
-/
import Derived.Test.Qxb6603412aIn
import Derived.Test.Qxb6603412aR
namespace Go.Proofs.Qxb6603412a.fnAppendConflictsKeepsEveryConflictByAPath
open Go.ChangeShapes Go.WideShapes Go.ChangeAt Go.RowKit
set_option linter.unusedVariables false

theorem own : ownKnob Try.prog.godebug = none := by kernel_rfl
theorem laidOut : laidOutB Try.prog = true := by kernel_rfl

theorem walk (pg : Int) (ao : Option Addr) (n c : Nat) (G : List (Int × Int × Bool)) (mv : Value) (L : Nat) (w : World) (hM : MapIn G n mv L w) (hG : InS gV w ao n c G) (hwf : WfG G) :
    Calls Try.prog 4 #[.int .i64 pg, .slice ao n c, mv] w fun e w' => e = .returned (.bool true) ∧ Below w.heap.size w w' := by
  by_cases h : 256 < n ∨ (n ≤ 256 ∧ 1048576 < L) ∨ (n ≤ 256 ∧ L ≤ 1048576 ∧ 1048576 < 24 * n + 16 * L)
  · exact top4_guard pg ao n c G mv L w hM hG.max h
  · exact top4 pg ao n c G mv L w hM hG.len hG.nil hG.row hwf (by omega) (by omega) (by omega)

set_option maxRecDepth 100000 in
theorem lifted (os : Os) (started : os.Started) (H : Type) (enc : TypeId × Value → H) :
    ReturnsInHanded {} Try.checked os 4 .any (Rows.fnAppendConflictsKeepsEveryConflictByAPathSpec.pre6 enc Try.prog Try.f4 Rows.fnAppendConflictsKeepsEveryConflictByAPathRow.domain false) (Rows.fnAppendConflictsKeepsEveryConflictByAPathSpec.post enc Try.prog Try.f4 false true false false) := by
  refine returnsInHanded_of_change (C := Try.checked) own started (by kernel_rfl) Try.func4
    (ChangeSpec.witness6 (enc := enc) (C := Try.checked) false ⟨#[], #[.int .i64 0, .slice none 0 0, .map none], []⟩ 8 (by kernel_rfl) (by kernel_rfl) (by kernel_rfl) (by kernel_rfl)) ?_
  intro W base args ds gs before hval0 hW hcnd _
  have hval : ∀ (j : Nat) t v, Try.f4.params[j]? = some t → args[j]? = some v → Value.okWide Try.prog W .any base t v := hval0
  have hW' := hW
  obtain ⟨p, q, hA0, hV, rfl, hfz, hnd⟩ := hW
  have hA : DataW.TrodAll enc Try.prog W 0 (fun _ => true) true Try.f4.params.toList args.toList ds p := hA0
  rw [Try.params4] at hA hval
  obtain ⟨v1, vs1, d1, ds1, p1, q1, hargs, rfl, rfl, h1, r1⟩ := trodAll_cons hA
  obtain ⟨v2, vs2, d2, ds2, p2, q2, rfl, rfl, rfl, h2, r2⟩ := trodAll_cons r1
  obtain ⟨v3, vs3, d3, ds3, p3, q3, rfl, rfl, rfl, h3, r3⟩ := trodAll_cons r2
  obtain ⟨rfl, rfl, rfl⟩ := trodAll_nil r3
  obtain rfl : args = #[v1, v2, v3] := by cases args; simp_all
  obtain ⟨rfl, rfl⟩ := trodVars_none hV
  obtain ⟨a2, len2, cap2, rfl⟩ := okWide_slice Try.underlying23 (hval 1 23 v2 rfl rfl)
  obtain ⟨a3, rfl⟩ := okWide_map Try.underlying24 (hval 2 24 v3 rfl rfl)
  have k2 := h2
  have k3 := h3
  have lt2 : ∀ x ∈ p2, x.block < W.heap.size := by obtain ⟨m, hm⟩ := k2; exact DataW.trod_lt m _ _ _ hm
  have lt3 : ∀ x ∈ p3, x.block < W.heap.size := by obtain ⟨m, hm⟩ := k3; exact DataW.trod_lt m _ _ _ hm
  obtain ⟨G, i2, wfG⟩ := inG_of h2
  obtain ⟨L, i3⟩ := mapIn_of i2.len wfG h3
  obtain ⟨r, rfl, rfl, rfl, w1⟩ := open_int Try.underlying3 (hval 0 3 v1 rfl rfl) h1
  clear hA0 hval0
  refine (walk r a2 len2 cap2 G (.map a3) L W i3 i2 wfG).mono fun e W' ⟨he, bel⟩ => ?_
  subst he
  exact ⟨_, rfl, _, _, _, [], _, [], hW', trodAll_mk1 (shut_bool Try.underlying4 _), (trodAll_cons_mk (shut_int Try.underlying3 w1) (trodAll_cons_mk (Below.trod laidOut (by kernel_rfl) (of_decide_eq_true (by kernel_rfl)) k2 bel lt2) (trodAll_cons_mk (Below.trod laidOut (by kernel_rfl) (of_decide_eq_true (by kernel_rfl)) k3 bel lt3) trodAll_mk0))), rfl, bel.frame _, fun h => by cases h⟩

theorem over : Rows.fnAppendConflictsKeepsEveryConflictByAPathRow.holds Try.pinned (OpenSpec.ofChange Rows.fnAppendConflictsKeepsEveryConflictByAPathSpec) :=
  OpenClaim.holds_of_wide 4 Try.f4 rfl rfl rfl rfl rfl rfl rfl ⟨rfl, rfl, rfl, rfl, rfl⟩ rfl rfl rfl rfl rfl (by kernel_rfl) Try.func4 (by kernel_rfl)
    (of_decide_eq_true (by kernel_rfl)) (by unfold Func.isWrapper; first | (rw [if_pos (by decide +kernel)]; kernel_rfl) | (rw [if_neg (by decide +kernel)]; exact ⟨rfl, rfl⟩))
    (fun os started H enc _ => lifted os started H enc)

/-- THE STATEMENT -/
theorem proved : Rows.FnAppendConflictsKeepsEveryConflictByAPathSaid := over
end Go.Proofs.Qxb6603412a.fnAppendConflictsKeepsEveryConflictByAPath
