/-
  No cell of these rows narrows 'for every input' (looked for: loops, veiled, ifaces, maps, wideKeys, modest, calm, conditions, laid).
  DERIVED. THE GIVEN ROWS OF THIS SEAT. 4 by the template 'for every input the law returns true; each argument reads behind the call as it read before'; 0 by the template 'total and deterministic' (their statements: Qxb6618061aTotals.lean).
  GIVEN WITH THE SEED: the statements are not yours to turn. If you find one false, say at which input.
  Laid BY PROGRAM, IN A SANDBOX (cutbox-rows.mjs): the forced cells as the released guide's own fill.sh prints them over the translation 2efee2df807c0f7e… (all of the seat's roots in one cut). By AI agents, Wed Nov 11 2026. No macro, syntax, notation, axiom, sorry.
-/
import Derived.Test.Qxb6618061aChecked
import GoSem.Claim
import GoSem.ClaimJoined
import GoSem.ClaimMapViews
import Derived.JoinedTies
import Derived.KernelRfl
namespace Go.Proofs.Qxb6618061a
/- THE CELL 'sum', in the pinned program and in every row, IS THE sha256 OF THE DUMP (.gsa) THAT Qxb6618061aProg.lean LOADS. Nothing in Lean hashes anything: it is a label: what it is worth is what the hold of that sum in a sandbox is worth. -/
noncomputable def Try.pinned : Pinned := { name := "qxb6618061a", sum := "2efee2df807c0f7e8b67237291070e3ff24c3a274efaefdc870a94b48f47b35a", checked := Try.checked }
namespace Rows
def none {H : Type} : Left H := { results := [], args := [] }

/-- 'zzlaws_internal_linsolve_b1.FnResidueIsAdditive': WHATEVER THE INPUT: true; the input reads as it did. -/
def fnResidueIsAdditiveSpec : ChangeSpec := { name := "fnResidueIsAdditive", fn := fun _ => fun
  | [d1, d2, d3] => { results := [.lit (.bool true)], args := [d1, d2, d3] }
  | _ => none }
def fnResidueIsAdditiveRow : OpenClaim := { program := "qxb6618061a", sum := "2efee2df807c0f7e8b67237291070e3ff24c3a274efaefdc870a94b48f47b35a", func := "example.com/armslength/armslength/zzlaws_internal_linsolve_b1.FnResidueIsAdditive", spec := "fnResidueIsAdditive", apart := false }
def FnResidueIsAdditiveSaid : Prop := fnResidueIsAdditiveRow.holds Try.pinned (OpenSpec.ofChange fnResidueIsAdditiveSpec)

/-- ITS FALSE NEIGHBOUR: 'it returns false'. Refute it at one input. -/
def fnResidueIsAdditiveWrong : ChangeSpec := { name := "fnResidueIsAdditive", fn := fun _ => fun
  | [d1, d2, d3] => { results := [.lit (.bool false)], args := [d1, d2, d3] }
  | _ => none }
def FnResidueIsAdditiveWrongFalsely : Prop := fnResidueIsAdditiveRow.holds Try.pinned (OpenSpec.ofChange fnResidueIsAdditiveWrong)

/-- 'zzlaws_internal_linsolve_b1.FnResidueNegatesAndRepeats': WHATEVER THE INPUT: true; the input reads as it did. -/
def fnResidueNegatesAndRepeatsSpec : ChangeSpec := { name := "fnResidueNegatesAndRepeats", fn := fun _ => fun
  | [d1, d2] => { results := [.lit (.bool true)], args := [d1, d2] }
  | _ => none }
def fnResidueNegatesAndRepeatsRow : OpenClaim := { program := "qxb6618061a", sum := "2efee2df807c0f7e8b67237291070e3ff24c3a274efaefdc870a94b48f47b35a", func := "example.com/armslength/armslength/zzlaws_internal_linsolve_b1.FnResidueNegatesAndRepeats", spec := "fnResidueNegatesAndRepeats", apart := false }
def FnResidueNegatesAndRepeatsSaid : Prop := fnResidueNegatesAndRepeatsRow.holds Try.pinned (OpenSpec.ofChange fnResidueNegatesAndRepeatsSpec)

/-- ITS FALSE NEIGHBOUR: 'it returns false'. Refute it at one input. -/
def fnResidueNegatesAndRepeatsWrong : ChangeSpec := { name := "fnResidueNegatesAndRepeats", fn := fun _ => fun
  | [d1, d2] => { results := [.lit (.bool false)], args := [d1, d2] }
  | _ => none }
def FnResidueNegatesAndRepeatsWrongFalsely : Prop := fnResidueNegatesAndRepeatsRow.holds Try.pinned (OpenSpec.ofChange fnResidueNegatesAndRepeatsWrong)

/-- 'zzlaws_internal_linsolve_b1.FnAddModIsSumBelowP': WHATEVER THE INPUT: true; the input reads as it did. -/
def fnAddModIsSumBelowPSpec : ChangeSpec := { name := "fnAddModIsSumBelowP", fn := fun _ => fun
  | [d1, d2, d3] => { results := [.lit (.bool true)], args := [d1, d2, d3] }
  | _ => none }
def fnAddModIsSumBelowPRow : OpenClaim := { program := "qxb6618061a", sum := "2efee2df807c0f7e8b67237291070e3ff24c3a274efaefdc870a94b48f47b35a", func := "example.com/armslength/armslength/zzlaws_internal_linsolve_b1.FnAddModIsSumBelowP", spec := "fnAddModIsSumBelowP", apart := false }
def FnAddModIsSumBelowPSaid : Prop := fnAddModIsSumBelowPRow.holds Try.pinned (OpenSpec.ofChange fnAddModIsSumBelowPSpec)

/-- ITS FALSE NEIGHBOUR: 'it returns false'. Refute it at one input. -/
def fnAddModIsSumBelowPWrong : ChangeSpec := { name := "fnAddModIsSumBelowP", fn := fun _ => fun
  | [d1, d2, d3] => { results := [.lit (.bool false)], args := [d1, d2, d3] }
  | _ => none }
def FnAddModIsSumBelowPWrongFalsely : Prop := fnAddModIsSumBelowPRow.holds Try.pinned (OpenSpec.ofChange fnAddModIsSumBelowPWrong)

/-- 'zzlaws_internal_linsolve_b1.FnSubModIsDifferenceBelowP': WHATEVER THE INPUT: true; the input reads as it did. -/
def fnSubModIsDifferenceBelowPSpec : ChangeSpec := { name := "fnSubModIsDifferenceBelowP", fn := fun _ => fun
  | [d1, d2, d3] => { results := [.lit (.bool true)], args := [d1, d2, d3] }
  | _ => none }
def fnSubModIsDifferenceBelowPRow : OpenClaim := { program := "qxb6618061a", sum := "2efee2df807c0f7e8b67237291070e3ff24c3a274efaefdc870a94b48f47b35a", func := "example.com/armslength/armslength/zzlaws_internal_linsolve_b1.FnSubModIsDifferenceBelowP", spec := "fnSubModIsDifferenceBelowP", apart := false }
def FnSubModIsDifferenceBelowPSaid : Prop := fnSubModIsDifferenceBelowPRow.holds Try.pinned (OpenSpec.ofChange fnSubModIsDifferenceBelowPSpec)

/-- ITS FALSE NEIGHBOUR: 'it returns false'. Refute it at one input. -/
def fnSubModIsDifferenceBelowPWrong : ChangeSpec := { name := "fnSubModIsDifferenceBelowP", fn := fun _ => fun
  | [d1, d2, d3] => { results := [.lit (.bool false)], args := [d1, d2, d3] }
  | _ => none }
def FnSubModIsDifferenceBelowPWrongFalsely : Prop := fnSubModIsDifferenceBelowPRow.holds Try.pinned (OpenSpec.ofChange fnSubModIsDifferenceBelowPWrong)

end Rows
end Go.Proofs.Qxb6618061a
