/-
  No cell of these rows narrows 'for every input' (looked for: loops, veiled, ifaces, maps, wideKeys, modest, calm, conditions, laid).
  DERIVED. THE GIVEN ROWS OF THIS SEAT. 1 by the template 'for every input the law returns true; each argument reads behind the call as it read before'; 0 by the template 'total and deterministic' (their statements: YbulkauesTotals.lean).
  GIVEN WITH THE SEED: the statements are not yours to turn. If you find one false, say at which input.
  Laid BY PROGRAM, IN A SANDBOX (cutbox-rows.mjs): the forced cells as the released guide's own fill.sh prints them over the translation f135bf17cf155d73… (all of the seat's roots in one cut). By AI agents, Wed Nov 11 2026. No macro, syntax, notation, axiom, sorry.
-/
import Derived.Test.YbulkauesChecked
import GoSem.Claim
import GoSem.ClaimJoined
import GoSem.ClaimMapViews
import Derived.JoinedTies
import Derived.KernelRfl
namespace Go.Proofs.Ybulkaues
/- THE CELL 'sum', in the pinned program and in every row, IS THE sha256 OF THE DUMP (.gsa) THAT YbulkauesProg.lean LOADS. Nothing in Lean hashes anything: it is a label: what it is worth is what the hold of that sum in a sandbox is worth. -/
noncomputable def Yba.pinned : Pinned := { name := "ybulkaues", sum := "f135bf17cf155d73a99b553393a4d9fd7fa7d858c58d85989c909c42740145a2", checked := Yba.checked }
namespace Rows
def none {H : Type} : Left H := { results := [], args := [] }

/-- 'apifile.LawS2280APlace': WHATEVER THE INPUT: true; the input reads as it did. -/
def lawS2280APlaceSpec : ChangeSpec := { name := "lawS2280APlace", fn := fun _ => fun
  | [d1, d2, d3, d4, d5, d6, d7] => { results := [.lit (.bool true)], args := [d1, d2, d3, d4, d5, d6, d7] }
  | _ => none }
def lawS2280APlaceRow : OpenClaim := { program := "ybulkaues", sum := "f135bf17cf155d73a99b553393a4d9fd7fa7d858c58d85989c909c42740145a2", func := "example.com/apigram/apigram/apifile.LawS2280APlace", spec := "lawS2280APlace", apart := false }
def LawS2280APlaceSaid : Prop := lawS2280APlaceRow.holds Yba.pinned (OpenSpec.ofChange lawS2280APlaceSpec)

/-- ITS FALSE NEIGHBOUR: 'it returns false'. Refute it at one input. -/
def lawS2280APlaceWrong : ChangeSpec := { name := "lawS2280APlace", fn := fun _ => fun
  | [d1, d2, d3, d4, d5, d6, d7] => { results := [.lit (.bool false)], args := [d1, d2, d3, d4, d5, d6, d7] }
  | _ => none }
def LawS2280APlaceWrongFalsely : Prop := lawS2280APlaceRow.holds Yba.pinned (OpenSpec.ofChange lawS2280APlaceWrong)

end Rows
end Go.Proofs.Ybulkaues
