/-
  DERIVED. GIVEN WITH THE SEED: THE CARDS: each row of YbulkezdaDoorRows.lean that lists a variable, with what it lists TIED to the program's text (the seventh form; the later family's looks); each row that meets fmt, with fmt's text TOLD by the authors' own Lean function (tested against real Go, not proved from fmt's source: count such statements apart). THE CARD IS WHAT COUNTS. Prove the row's statement (the work); the ties are given (YbulkezdaDoorTie.lean); close each card by the builder's one call (the guide's Derived/Test/ToyasCard.lean, 'card_holds'). Laid BY PROGRAM, IN A SANDBOX (cutbox-door.mjs). By AI agents, Wed Nov 11 2026. No macro, syntax, notation, axiom, sorry.
-/
import Derived.Test.YbulkezdaDoorRows
import GoSem.ClaimSeven
namespace Go.Proofs.YbulkezdaDoor
namespace Rows

/-- THE TIED CARD OF 'protocol.LawS7540AWhole'. -/
def lawS7540AWholeCard : Claim7 := { stood := { row := lawS7540AWholeRow, standIns := [], harness := (true, "2ebd292140371cbfe37ebae87f8d9adf99daf7aa05a0e693ed95c12d8692c995"), looks := true }, kinds := [], alts := [], laidByText := true, laidKinds := [.data, .data], laidTests := true, laidLooks := .later }
def LawS7540AWholeCardSaid : Prop := Claim7.holds Ybad.pinned (.plain (OpenSpec.ofChange lawS7540AWholeSpec)) lawS7540AWholeCard

/-- THE TIED CARD OF 'table.LawS7540CWhole'. -/
def lawS7540CWholeCard : Claim7 := { stood := { row := lawS7540CWholeRow, standIns := [], harness := (true, "2ebd292140371cbfe37ebae87f8d9adf99daf7aa05a0e693ed95c12d8692c995"), looks := true }, kinds := [], alts := [], laidByText := true, laidKinds := [.handle], laidTests := true, laidLooks := .later }
def LawS7540CWholeCardSaid : Prop := Claim7.holds Ybad.pinned (.plain (OpenSpec.ofChange lawS7540CWholeSpec)) lawS7540CWholeCard
end Rows
end Go.Proofs.YbulkezdaDoor
