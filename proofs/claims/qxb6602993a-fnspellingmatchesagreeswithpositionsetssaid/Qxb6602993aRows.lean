/-
  No cell of these rows narrows 'for every input' (looked for: loops, veiled, ifaces, maps, wideKeys, modest, calm, conditions, laid).
  DERIVED. THE GIVEN ROWS OF THIS SEAT. 6 by the template 'for every input the law returns true; each argument reads behind the call as it read before'; 0 by the template 'total and deterministic' (their statements: Qxb6602993aTotals.lean).
  GIVEN WITH THE SEED: the statements are not yours to turn. If you find one false, say at which input.
  Laid BY PROGRAM, IN A SANDBOX (cutbox-rows.mjs): the forced cells as the released guide's own fill.sh prints them over the translation 933b8a1b93e6a3c0… (all of the seat's roots in one cut). By AI agents, Wed Nov 11 2026. No macro, syntax, notation, axiom, sorry.
-/
import Derived.Test.Qxb6602993aChecked
import GoSem.Claim
import GoSem.ClaimJoined
import GoSem.ClaimMapViews
import Derived.JoinedTies
import Derived.KernelRfl
namespace Go.Proofs.Qxb6602993a
/- THE CELL 'sum', in the pinned program and in every row, IS THE sha256 OF THE DUMP (.gsa) THAT Qxb6602993aProg.lean LOADS. Nothing in Lean hashes anything: it is a label: what it is worth is what the hold of that sum in a sandbox is worth. -/
noncomputable def Try.pinned : Pinned := { name := "qxb6602993a", sum := "933b8a1b93e6a3c0795a982618e7d4d47687d95e39ac88aa60309fbc695a1ca7", checked := Try.checked }
namespace Rows
def none {H : Type} : Left H := { results := [], args := [] }

/-- 'zzlaws_root_b1.FnGroupOfMatchesDigits': WHATEVER THE INPUT: true; the input reads as it did. -/
def fnGroupOfMatchesDigitsSpec : ChangeSpec := { name := "fnGroupOfMatchesDigits", fn := fun _ => fun
  | [d1, d2] => { results := [.lit (.bool true)], args := [d1, d2] }
  | _ => none }
def fnGroupOfMatchesDigitsRow : OpenClaim := { program := "qxb6602993a", sum := "933b8a1b93e6a3c0795a982618e7d4d47687d95e39ac88aa60309fbc695a1ca7", func := "example.com/tuoguan/tuoguan/zzlaws_root_b1.FnGroupOfMatchesDigits", spec := "fnGroupOfMatchesDigits", apart := false }
def FnGroupOfMatchesDigitsSaid : Prop := fnGroupOfMatchesDigitsRow.holds Try.pinned (OpenSpec.ofChange fnGroupOfMatchesDigitsSpec)

/-- ITS FALSE NEIGHBOUR: 'it returns false'. Refute it at one input. -/
def fnGroupOfMatchesDigitsWrong : ChangeSpec := { name := "fnGroupOfMatchesDigits", fn := fun _ => fun
  | [d1, d2] => { results := [.lit (.bool false)], args := [d1, d2] }
  | _ => none }
def FnGroupOfMatchesDigitsWrongFalsely : Prop := fnGroupOfMatchesDigitsRow.holds Try.pinned (OpenSpec.ofChange fnGroupOfMatchesDigitsWrong)

/-- 'zzlaws_root_b1.FnGroupOfRebuildsYuan': WHATEVER THE INPUT: true; the input reads as it did. -/
def fnGroupOfRebuildsYuanSpec : ChangeSpec := { name := "fnGroupOfRebuildsYuan", fn := fun _ => fun
  | [d] => { results := [.lit (.bool true)], args := [d] }
  | _ => none }
def fnGroupOfRebuildsYuanRow : OpenClaim := { program := "qxb6602993a", sum := "933b8a1b93e6a3c0795a982618e7d4d47687d95e39ac88aa60309fbc695a1ca7", func := "example.com/tuoguan/tuoguan/zzlaws_root_b1.FnGroupOfRebuildsYuan", spec := "fnGroupOfRebuildsYuan", apart := false }
def FnGroupOfRebuildsYuanSaid : Prop := fnGroupOfRebuildsYuanRow.holds Try.pinned (OpenSpec.ofChange fnGroupOfRebuildsYuanSpec)

/-- ITS FALSE NEIGHBOUR: 'it returns false'. Refute it at one input. -/
def fnGroupOfRebuildsYuanWrong : ChangeSpec := { name := "fnGroupOfRebuildsYuan", fn := fun _ => fun
  | [d] => { results := [.lit (.bool false)], args := [d] }
  | _ => none }
def FnGroupOfRebuildsYuanWrongFalsely : Prop := fnGroupOfRebuildsYuanRow.holds Try.pinned (OpenSpec.ofChange fnGroupOfRebuildsYuanWrong)

/-- 'zzlaws_root_b1.FnSpellingMatchesAgreesWithPositionSets': WHATEVER THE INPUT: true; the input reads as it did. -/
def fnSpellingMatchesAgreesWithPositionSetsSpec : ChangeSpec := { name := "fnSpellingMatchesAgreesWithPositionSets", fn := fun _ => fun
  | [d1, d2] => { results := [.lit (.bool true)], args := [d1, d2] }
  | _ => none }
def fnSpellingMatchesAgreesWithPositionSetsRow : OpenClaim := { program := "qxb6602993a", sum := "933b8a1b93e6a3c0795a982618e7d4d47687d95e39ac88aa60309fbc695a1ca7", func := "example.com/tuoguan/tuoguan/zzlaws_root_b1.FnSpellingMatchesAgreesWithPositionSets", spec := "fnSpellingMatchesAgreesWithPositionSets", recurses := true, apart := false }
def FnSpellingMatchesAgreesWithPositionSetsSaid : Prop := fnSpellingMatchesAgreesWithPositionSetsRow.holds Try.pinned (OpenSpec.ofChange fnSpellingMatchesAgreesWithPositionSetsSpec)

/-- ITS FALSE NEIGHBOUR: 'it returns false'. Refute it at one input. -/
def fnSpellingMatchesAgreesWithPositionSetsWrong : ChangeSpec := { name := "fnSpellingMatchesAgreesWithPositionSets", fn := fun _ => fun
  | [d1, d2] => { results := [.lit (.bool false)], args := [d1, d2] }
  | _ => none }
def FnSpellingMatchesAgreesWithPositionSetsWrongFalsely : Prop := fnSpellingMatchesAgreesWithPositionSetsRow.holds Try.pinned (OpenSpec.ofChange fnSpellingMatchesAgreesWithPositionSetsWrong)

/-- 'zzlaws_root_b1.FnSpellingMatchesIgnoresAlternativeOrder': WHATEVER THE INPUT: true; the input reads as it did. -/
def fnSpellingMatchesIgnoresAlternativeOrderSpec : ChangeSpec := { name := "fnSpellingMatchesIgnoresAlternativeOrder", fn := fun _ => fun
  | [d1, d2] => { results := [.lit (.bool true)], args := [d1, d2] }
  | _ => none }
def fnSpellingMatchesIgnoresAlternativeOrderRow : OpenClaim := { program := "qxb6602993a", sum := "933b8a1b93e6a3c0795a982618e7d4d47687d95e39ac88aa60309fbc695a1ca7", func := "example.com/tuoguan/tuoguan/zzlaws_root_b1.FnSpellingMatchesIgnoresAlternativeOrder", spec := "fnSpellingMatchesIgnoresAlternativeOrder", recurses := true, apart := false }
def FnSpellingMatchesIgnoresAlternativeOrderSaid : Prop := fnSpellingMatchesIgnoresAlternativeOrderRow.holds Try.pinned (OpenSpec.ofChange fnSpellingMatchesIgnoresAlternativeOrderSpec)

/-- ITS FALSE NEIGHBOUR: 'it returns false'. Refute it at one input. -/
def fnSpellingMatchesIgnoresAlternativeOrderWrong : ChangeSpec := { name := "fnSpellingMatchesIgnoresAlternativeOrder", fn := fun _ => fun
  | [d1, d2] => { results := [.lit (.bool false)], args := [d1, d2] }
  | _ => none }
def FnSpellingMatchesIgnoresAlternativeOrderWrongFalsely : Prop := fnSpellingMatchesIgnoresAlternativeOrderRow.holds Try.pinned (OpenSpec.ofChange fnSpellingMatchesIgnoresAlternativeOrderWrong)

/-- 'zzlaws_root_b1.FnColumnsAtMatchesSpec': WHATEVER THE INPUT: true; the input reads as it did. -/
def fnColumnsAtMatchesSpecSpec : ChangeSpec := { name := "fnColumnsAtMatchesSpec", fn := fun _ => fun
  | [d1, d2, d3] => { results := [.lit (.bool true)], args := [d1, d2, d3] }
  | _ => none }
def fnColumnsAtMatchesSpecRow : OpenClaim := { program := "qxb6602993a", sum := "933b8a1b93e6a3c0795a982618e7d4d47687d95e39ac88aa60309fbc695a1ca7", func := "example.com/tuoguan/tuoguan/zzlaws_root_b1.FnColumnsAtMatchesSpec", spec := "fnColumnsAtMatchesSpec", apart := false }
def FnColumnsAtMatchesSpecSaid : Prop := fnColumnsAtMatchesSpecRow.holds Try.pinned (OpenSpec.ofChange fnColumnsAtMatchesSpecSpec)

/-- ITS FALSE NEIGHBOUR: 'it returns false'. Refute it at one input. -/
def fnColumnsAtMatchesSpecWrong : ChangeSpec := { name := "fnColumnsAtMatchesSpec", fn := fun _ => fun
  | [d1, d2, d3] => { results := [.lit (.bool false)], args := [d1, d2, d3] }
  | _ => none }
def FnColumnsAtMatchesSpecWrongFalsely : Prop := fnColumnsAtMatchesSpecRow.holds Try.pinned (OpenSpec.ofChange fnColumnsAtMatchesSpecWrong)

/-- 'zzlaws_root_b1.FnColumnsAtDroppingTrailingColumnsKeepsAcceptance': WHATEVER THE INPUT: true; the input reads as it did. -/
def fnColumnsAtDroppingTrailingColumnsKeepsAcceptanceSpec : ChangeSpec := { name := "fnColumnsAtDroppingTrailingColumnsKeepsAcceptance", fn := fun _ => fun
  | [d1, d2, d3, d4] => { results := [.lit (.bool true)], args := [d1, d2, d3, d4] }
  | _ => none }
def fnColumnsAtDroppingTrailingColumnsKeepsAcceptanceRow : OpenClaim := { program := "qxb6602993a", sum := "933b8a1b93e6a3c0795a982618e7d4d47687d95e39ac88aa60309fbc695a1ca7", func := "example.com/tuoguan/tuoguan/zzlaws_root_b1.FnColumnsAtDroppingTrailingColumnsKeepsAcceptance", spec := "fnColumnsAtDroppingTrailingColumnsKeepsAcceptance", apart := false }
def FnColumnsAtDroppingTrailingColumnsKeepsAcceptanceSaid : Prop := fnColumnsAtDroppingTrailingColumnsKeepsAcceptanceRow.holds Try.pinned (OpenSpec.ofChange fnColumnsAtDroppingTrailingColumnsKeepsAcceptanceSpec)

/-- ITS FALSE NEIGHBOUR: 'it returns false'. Refute it at one input. -/
def fnColumnsAtDroppingTrailingColumnsKeepsAcceptanceWrong : ChangeSpec := { name := "fnColumnsAtDroppingTrailingColumnsKeepsAcceptance", fn := fun _ => fun
  | [d1, d2, d3, d4] => { results := [.lit (.bool false)], args := [d1, d2, d3, d4] }
  | _ => none }
def FnColumnsAtDroppingTrailingColumnsKeepsAcceptanceWrongFalsely : Prop := fnColumnsAtDroppingTrailingColumnsKeepsAcceptanceRow.holds Try.pinned (OpenSpec.ofChange fnColumnsAtDroppingTrailingColumnsKeepsAcceptanceWrong)

end Rows
end Go.Proofs.Qxb6602993a
