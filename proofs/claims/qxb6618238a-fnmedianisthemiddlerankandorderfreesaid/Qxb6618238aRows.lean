/-
  No cell of these rows narrows 'for every input' (looked for: loops, veiled, ifaces, maps, wideKeys, modest, calm, conditions, laid).
  DERIVED. THE GIVEN ROWS OF THIS SEAT. 2 by the template 'for every input the law returns true; each argument reads behind the call as it read before'; 0 by the template 'total and deterministic' (their statements: Qxb6618238aTotals.lean).
  GIVEN WITH THE SEED: the statements are not yours to turn. If you find one false, say at which input.
  Laid BY PROGRAM, IN A SANDBOX (cutbox-rows.mjs): the forced cells as the released guide's own fill.sh prints them over the translation d7bbd692744e992b… (all of the seat's roots in one cut). By AI agents, Wed Nov 11 2026. No macro, syntax, notation, axiom, sorry.
-/
import Derived.Test.Qxb6618238aChecked
import GoSem.Claim
import GoSem.ClaimJoined
import GoSem.ClaimMapViews
import Derived.JoinedTies
import Derived.KernelRfl
namespace Go.Proofs.Qxb6618238a
/- THE CELL 'sum', in the pinned program and in every row, IS THE sha256 OF THE DUMP (.gsa) THAT Qxb6618238aProg.lean LOADS. Nothing in Lean hashes anything: it is a label: what it is worth is what the hold of that sum in a sandbox is worth. -/
noncomputable def Try.pinned : Pinned := { name := "qxb6618238a", sum := "d7bbd692744e992bea1a28d6c45905d1eb5b54d918c4c65cab6483efb6fcb1fb", checked := Try.checked }
namespace Rows
def none {H : Type} : Left H := { results := [], args := [] }

/-- 'zzlaws_internal_table_b1.FnMedianIsTheMiddleRankAndOrderFree': WHATEVER THE INPUT: true; the input reads as it did. -/
def fnMedianIsTheMiddleRankAndOrderFreeSpec : ChangeSpec := { name := "fnMedianIsTheMiddleRankAndOrderFree", fn := fun _ => fun
  | [d1, d2] => { results := [.lit (.bool true)], args := [d1, d2] }
  | _ => none }
def fnMedianIsTheMiddleRankAndOrderFreeRow : OpenClaim := { program := "qxb6618238a", sum := "d7bbd692744e992bea1a28d6c45905d1eb5b54d918c4c65cab6483efb6fcb1fb", func := "example.com/mirrormap/zzlaws_internal_table_b1.FnMedianIsTheMiddleRankAndOrderFree", spec := "fnMedianIsTheMiddleRankAndOrderFree", unfollowed := true, recurses := true, apart := false }
def FnMedianIsTheMiddleRankAndOrderFreeSaid : Prop := fnMedianIsTheMiddleRankAndOrderFreeRow.holds Try.pinned (OpenSpec.ofChange fnMedianIsTheMiddleRankAndOrderFreeSpec)

/-- ITS FALSE NEIGHBOUR: 'it returns false'. Refute it at one input. -/
def fnMedianIsTheMiddleRankAndOrderFreeWrong : ChangeSpec := { name := "fnMedianIsTheMiddleRankAndOrderFree", fn := fun _ => fun
  | [d1, d2] => { results := [.lit (.bool false)], args := [d1, d2] }
  | _ => none }
def FnMedianIsTheMiddleRankAndOrderFreeWrongFalsely : Prop := fnMedianIsTheMiddleRankAndOrderFreeRow.holds Try.pinned (OpenSpec.ofChange fnMedianIsTheMiddleRankAndOrderFreeWrong)

/-- 'zzlaws_internal_table_b1.FnMedianIsOddUnderNegation': WHATEVER THE INPUT: true; the input reads as it did. -/
def fnMedianIsOddUnderNegationSpec : ChangeSpec := { name := "fnMedianIsOddUnderNegation", fn := fun _ => fun
  | [d] => { results := [.lit (.bool true)], args := [d] }
  | _ => none }
def fnMedianIsOddUnderNegationRow : OpenClaim := { program := "qxb6618238a", sum := "d7bbd692744e992bea1a28d6c45905d1eb5b54d918c4c65cab6483efb6fcb1fb", func := "example.com/mirrormap/zzlaws_internal_table_b1.FnMedianIsOddUnderNegation", spec := "fnMedianIsOddUnderNegation", unfollowed := true, recurses := true, apart := false }
def FnMedianIsOddUnderNegationSaid : Prop := fnMedianIsOddUnderNegationRow.holds Try.pinned (OpenSpec.ofChange fnMedianIsOddUnderNegationSpec)

/-- ITS FALSE NEIGHBOUR: 'it returns false'. Refute it at one input. -/
def fnMedianIsOddUnderNegationWrong : ChangeSpec := { name := "fnMedianIsOddUnderNegation", fn := fun _ => fun
  | [d] => { results := [.lit (.bool false)], args := [d] }
  | _ => none }
def FnMedianIsOddUnderNegationWrongFalsely : Prop := fnMedianIsOddUnderNegationRow.holds Try.pinned (OpenSpec.ofChange fnMedianIsOddUnderNegationWrong)

end Rows
end Go.Proofs.Qxb6618238a
