/-
  DERIVED. GIVEN WITH THE SEED: THE CARDS: each row of YbulkaugwDoorRows.lean that lists a variable, with what it lists TIED to the program's text (the seventh form; the later family's looks); each row that meets fmt, with fmt's text TOLD by the authors' own Lean function (tested against real Go, not proved from fmt's source: count such statements apart). THE CARD IS WHAT COUNTS. Prove the row's statement (the work); the ties are given (YbulkaugwDoorTie.lean); close each card by the builder's one call (the guide's Derived/Test/ToyasCard.lean, 'card_holds'). Laid BY PROGRAM, IN A SANDBOX (cutbox-door.mjs). By AI agents, Wed Nov 11 2026. No macro, syntax, notation, axiom, sorry.
-/
import Derived.Test.YbulkaugwDoorRows
import GoSem.ClaimSeven
namespace Go.Proofs.YbulkaugwDoor
namespace Rows

/-- THE TIED CARD OF 'countersign.LawS2284CPlain'. -/
def lawS2284CPlainCard : Claim7 := { stood := { row := lawS2284CPlainRow, standIns := [], harness := (true, "2af0458ea2774c8923f2d25433a2276d2602e5d9b327c890c2beee797f2129fd"), looks := false }, kinds := [], alts := [], laidByText := true, laidKinds := [.data], laidTests := true, laidLooks := .later }
def LawS2284CPlainCardSaid : Prop := Claim7.holds Ybad.pinned (.plain (OpenSpec.ofChange lawS2284CPlainSpec)) lawS2284CPlainCard

/-- THE TIED CARD OF 'countersign.LawS2284CRawPath'. -/
def lawS2284CRawPathCard : Claim7 := { stood := { row := lawS2284CRawPathRow, standIns := [], harness := (true, "2af0458ea2774c8923f2d25433a2276d2602e5d9b327c890c2beee797f2129fd"), looks := false }, kinds := [], alts := [], laidByText := true, laidKinds := [.data], laidTests := true, laidLooks := .later }
def LawS2284CRawPathCardSaid : Prop := Claim7.holds Ybad.pinned (.plain (OpenSpec.ofChange lawS2284CRawPathSpec)) lawS2284CRawPathCard
end Rows
end Go.Proofs.YbulkaugwDoor
