/-
  DERIVED. GIVEN WITH THE SEED: THE CARDS: each row of Qxb6618238aDoorRows.lean that lists a variable, with what it lists TIED to the program's text (the seventh form; the later family's looks); each row that meets fmt, with fmt's text TOLD by the authors' own Lean function (tested against real Go, not proved from fmt's source: count such statements apart). THE CARD IS WHAT COUNTS. Prove the row's statement (the work); the ties are given (Qxb6618238aDoorTie.lean); close each card by the builder's one call (the guide's Derived/Test/ToyasCard.lean, 'card_holds'). Laid BY PROGRAM, IN A SANDBOX (cutbox-door.mjs). By AI agents, Wed Nov 11 2026. No macro, syntax, notation, axiom, sorry.
-/
import Derived.Test.Qxb6618238aDoorRows
import GoSem.ClaimSeven
namespace Go.Proofs.Qxb6618238aDoor
namespace Rows

/-- THE TIED CARD OF 'zzlaws_internal_table_b1.FnTypeStringReadsBackAndTellsTypesApart'. -/
def fnTypeStringReadsBackAndTellsTypesApartCard : Claim7 := { stood := { row := fnTypeStringReadsBackAndTellsTypesApartRow, standIns := [], harness := (true, "bcc7782591281fde031f0f40d3c93836d4148754dc5a08576b2d8d793ec9abe9"), looks := false }, kinds := [], alts := [], laidByText := true, laidKinds := [.data, .data, .data], laidTests := true, laidLooks := .later }
def FnTypeStringReadsBackAndTellsTypesApartCardSaid : Prop := Claim7.holds Tryd.pinned (.plain (OpenSpec.ofChange fnTypeStringReadsBackAndTellsTypesApartSpec)) fnTypeStringReadsBackAndTellsTypesApartCard
end Rows
end Go.Proofs.Qxb6618238aDoor
