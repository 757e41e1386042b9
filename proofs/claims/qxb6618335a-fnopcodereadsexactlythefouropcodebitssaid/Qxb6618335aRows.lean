/-
  No cell of these rows narrows 'for every input' (looked for: loops, veiled, ifaces, maps, wideKeys, modest, calm, conditions, laid).
  DERIVED. THE GIVEN ROWS OF THIS SEAT. 1 by the template 'for every input the law returns true; each argument reads behind the call as it read before'; 0 by the template 'total and deterministic' (their statements: Qxb6618335aTotals.lean).
  GIVEN WITH THE SEED: the statements are not yours to turn. If you find one false, say at which input.
  Laid BY PROGRAM, IN A SANDBOX (cutbox-rows.mjs): the forced cells as the released guide's own fill.sh prints them over the translation e51dd27b91934957… (all of the seat's roots in one cut). By AI agents, Wed Nov 11 2026. No macro, syntax, notation, axiom, sorry.
-/
import Derived.Test.Qxb6618335aChecked
import GoSem.Claim
import GoSem.ClaimJoined
import GoSem.ClaimMapViews
import Derived.JoinedTies
import Derived.KernelRfl
namespace Go.Proofs.Qxb6618335a
/- THE CELL 'sum', in the pinned program and in every row, IS THE sha256 OF THE DUMP (.gsa) THAT Qxb6618335aProg.lean LOADS. Nothing in Lean hashes anything: it is a label: what it is worth is what the hold of that sum in a sandbox is worth. -/
noncomputable def Try.pinned : Pinned := { name := "qxb6618335a", sum := "e51dd27b919349576305d7cbcb92e02f544c7617be4017ea8a91ba6dc7333f4d", checked := Try.checked }
namespace Rows
def none {H : Type} : Left H := { results := [], args := [] }

/-- 'zzlaws_internal_dns_b1.FnOpcodeReadsExactlyTheFourOpcodeBits': WHATEVER THE INPUT: true; the input reads as it did. -/
def fnOpcodeReadsExactlyTheFourOpcodeBitsSpec : ChangeSpec := { name := "fnOpcodeReadsExactlyTheFourOpcodeBits", fn := fun _ => fun
  | [d1, d2, d3, d4, d5, d6, d7] => { results := [.lit (.bool true)], args := [d1, d2, d3, d4, d5, d6, d7] }
  | _ => none }
def fnOpcodeReadsExactlyTheFourOpcodeBitsRow : OpenClaim := { program := "qxb6618335a", sum := "e51dd27b919349576305d7cbcb92e02f544c7617be4017ea8a91ba6dc7333f4d", func := "example.com/rhumbline/rhumbline/zzlaws_internal_dns_b1.FnOpcodeReadsExactlyTheFourOpcodeBits", spec := "fnOpcodeReadsExactlyTheFourOpcodeBits", apart := false }
def FnOpcodeReadsExactlyTheFourOpcodeBitsSaid : Prop := fnOpcodeReadsExactlyTheFourOpcodeBitsRow.holds Try.pinned (OpenSpec.ofChange fnOpcodeReadsExactlyTheFourOpcodeBitsSpec)

/-- ITS FALSE NEIGHBOUR: 'it returns false'. Refute it at one input. -/
def fnOpcodeReadsExactlyTheFourOpcodeBitsWrong : ChangeSpec := { name := "fnOpcodeReadsExactlyTheFourOpcodeBits", fn := fun _ => fun
  | [d1, d2, d3, d4, d5, d6, d7] => { results := [.lit (.bool false)], args := [d1, d2, d3, d4, d5, d6, d7] }
  | _ => none }
def FnOpcodeReadsExactlyTheFourOpcodeBitsWrongFalsely : Prop := fnOpcodeReadsExactlyTheFourOpcodeBitsRow.holds Try.pinned (OpenSpec.ofChange fnOpcodeReadsExactlyTheFourOpcodeBitsWrong)

end Rows
end Go.Proofs.Qxb6618335a
