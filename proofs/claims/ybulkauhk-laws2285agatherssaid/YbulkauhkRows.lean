/-
  No cell of these rows narrows 'for every input' (looked for: loops, veiled, ifaces, maps, wideKeys, modest, calm, conditions, laid).
  DERIVED. THE GIVEN ROWS OF THIS SEAT. 2 by the template 'for every input the law returns true; each argument reads behind the call as it read before'; 0 by the template 'total and deterministic' (their statements: YbulkauhkTotals.lean).
  GIVEN WITH THE SEED: the statements are not yours to turn. If you find one false, say at which input.
  Laid BY PROGRAM, IN A SANDBOX (cutbox-rows.mjs): the forced cells as the released guide's own fill.sh prints them over the translation d5e2be9da43ec4ac… (all of the seat's roots in one cut). By AI agents, Wed Nov 11 2026. No macro, syntax, notation, axiom, sorry.
-/
import Derived.Test.YbulkauhkChecked
import GoSem.Claim
import GoSem.ClaimJoined
import GoSem.ClaimMapViews
import Derived.JoinedTies
import Derived.KernelRfl
namespace Go.Proofs.Ybulkauhk
/- THE CELL 'sum', in the pinned program and in every row, IS THE sha256 OF THE DUMP (.gsa) THAT YbulkauhkProg.lean LOADS. Nothing in Lean hashes anything: it is a label: what it is worth is what the hold of that sum in a sandbox is worth. -/
noncomputable def Yba.pinned : Pinned := { name := "ybulkauhk", sum := "d5e2be9da43ec4aca22bd94ab48e832cf0e04c9f720f88b158823906c0d1ad1a", checked := Yba.checked }
namespace Rows
def none {H : Type} : Left H := { results := [], args := [] }

/-- 'check.LawS2285AGathers': WHATEVER THE INPUT: true; the input reads as it did. -/
def lawS2285AGathersSpec : ChangeSpec := { name := "lawS2285AGathers", fn := fun _ => fun
  | [d1, d2, d3, d4, d5] => { results := [.lit (.bool true)], args := [d1, d2, d3, d4, d5] }
  | _ => none }
def lawS2285AGathersRow : OpenClaim := { program := "ybulkauhk", sum := "d5e2be9da43ec4aca22bd94ab48e832cf0e04c9f720f88b158823906c0d1ad1a", func := "example.com/eventide/eventide/pkg/check.LawS2285AGathers", spec := "lawS2285AGathers", plainKeys := false, apart := false }
def LawS2285AGathersSaid : Prop := lawS2285AGathersRow.holds Yba.pinned (OpenSpec.ofChange lawS2285AGathersSpec)

/-- ITS FALSE NEIGHBOUR: 'it returns false'. Refute it at one input. -/
def lawS2285AGathersWrong : ChangeSpec := { name := "lawS2285AGathers", fn := fun _ => fun
  | [d1, d2, d3, d4, d5] => { results := [.lit (.bool false)], args := [d1, d2, d3, d4, d5] }
  | _ => none }
def LawS2285AGathersWrongFalsely : Prop := lawS2285AGathersRow.holds Yba.pinned (OpenSpec.ofChange lawS2285AGathersWrong)

/-- 'check.LawS2285ANilBlame': WHATEVER THE INPUT: true; the input reads as it did. -/
def lawS2285ANilBlameSpec : ChangeSpec := { name := "lawS2285ANilBlame", fn := fun _ => fun
  | [d1, d2, d3, d4, d5] => { results := [.lit (.bool true)], args := [d1, d2, d3, d4, d5] }
  | _ => none }
def lawS2285ANilBlameRow : OpenClaim := { program := "ybulkauhk", sum := "d5e2be9da43ec4aca22bd94ab48e832cf0e04c9f720f88b158823906c0d1ad1a", func := "example.com/eventide/eventide/pkg/check.LawS2285ANilBlame", spec := "lawS2285ANilBlame", plainKeys := false, apart := false }
def LawS2285ANilBlameSaid : Prop := lawS2285ANilBlameRow.holds Yba.pinned (OpenSpec.ofChange lawS2285ANilBlameSpec)

/-- ITS FALSE NEIGHBOUR: 'it returns false'. Refute it at one input. -/
def lawS2285ANilBlameWrong : ChangeSpec := { name := "lawS2285ANilBlame", fn := fun _ => fun
  | [d1, d2, d3, d4, d5] => { results := [.lit (.bool false)], args := [d1, d2, d3, d4, d5] }
  | _ => none }
def LawS2285ANilBlameWrongFalsely : Prop := lawS2285ANilBlameRow.holds Yba.pinned (OpenSpec.ofChange lawS2285ANilBlameWrong)

end Rows
end Go.Proofs.Ybulkauhk
