/-
  No cell of these rows narrows 'for every input' (looked for: loops, veiled, ifaces, maps, wideKeys, modest, calm, conditions, laid).
  DERIVED. THE GIVEN ROWS OF THIS SEAT. 3 by the template 'for every input the law returns true; each argument reads behind the call as it read before'; 0 by the template 'total and deterministic' (their statements: YbulkauniTotals.lean).
  GIVEN WITH THE SEED: the statements are not yours to turn. If you find one false, say at which input.
  Laid BY PROGRAM, IN A SANDBOX (cutbox-rows.mjs): the forced cells as the released guide's own fill.sh prints them over the translation 65486c5fff140c61… (all of the seat's roots in one cut). By AI agents, Wed Nov 11 2026. No macro, syntax, notation, axiom, sorry.
-/
import Derived.Test.YbulkauniChecked
import GoSem.Claim
import GoSem.ClaimJoined
import GoSem.ClaimMapViews
import Derived.JoinedTies
import Derived.KernelRfl
namespace Go.Proofs.Ybulkauni
/- THE CELL 'sum', in the pinned program and in every row, IS THE sha256 OF THE DUMP (.gsa) THAT YbulkauniProg.lean LOADS. Nothing in Lean hashes anything: it is a label: what it is worth is what the hold of that sum in a sandbox is worth. -/
noncomputable def Yba.pinned : Pinned := { name := "ybulkauni", sum := "65486c5fff140c616561c7c689eac374795eb192a2a98516df25491110e252c5", checked := Yba.checked }
namespace Rows
def none {H : Type} : Left H := { results := [], args := [] }

/-- 'protocol.LawS2296ATells': WHATEVER THE INPUT: true; the input reads as it did. -/
def lawS2296ATellsSpec : ChangeSpec := { name := "lawS2296ATells", fn := fun _ => fun
  | [d1, d2] => { results := [.lit (.bool true)], args := [d1, d2] }
  | _ => none }
def lawS2296ATellsRow : OpenClaim := { program := "ybulkauni", sum := "65486c5fff140c616561c7c689eac374795eb192a2a98516df25491110e252c5", func := "example.com/quorumlog/quorumlog/internal/protocol.LawS2296ATells", spec := "lawS2296ATells", inPlace := ["slices.overlaps[example.com/quorumlog/quorumlog/internal/protocol.zzs2296aent]"], unfollowed := true, recurses := true, plainKeys := false, apart := false }
def LawS2296ATellsSaid : Prop := lawS2296ATellsRow.holds Yba.pinned (OpenSpec.ofChange lawS2296ATellsSpec)

/-- ITS FALSE NEIGHBOUR: 'it returns false'. Refute it at one input. -/
def lawS2296ATellsWrong : ChangeSpec := { name := "lawS2296ATells", fn := fun _ => fun
  | [d1, d2] => { results := [.lit (.bool false)], args := [d1, d2] }
  | _ => none }
def LawS2296ATellsWrongFalsely : Prop := lawS2296ATellsRow.holds Yba.pinned (OpenSpec.ofChange lawS2296ATellsWrong)

/-- 'member.LawS2296CSendTaken': WHATEVER THE INPUT: true; the input reads as it did. -/
def lawS2296CSendTakenSpec : ChangeSpec := { name := "lawS2296CSendTaken", fn := fun _ => fun
  | [d1, d2, d3, d4, d5, d6, d7] => { results := [.lit (.bool true)], args := [d1, d2, d3, d4, d5, d6, d7] }
  | _ => none }
def lawS2296CSendTakenRow : OpenClaim := { program := "ybulkauni", sum := "65486c5fff140c616561c7c689eac374795eb192a2a98516df25491110e252c5", func := "example.com/quorumlog/quorumlog/internal/member.LawS2296CSendTaken", spec := "lawS2296CSendTaken", unfollowed := true, recurses := true, plainKeys := false, apart := false }
def LawS2296CSendTakenSaid : Prop := lawS2296CSendTakenRow.holds Yba.pinned (OpenSpec.ofChange lawS2296CSendTakenSpec)

/-- ITS FALSE NEIGHBOUR: 'it returns false'. Refute it at one input. -/
def lawS2296CSendTakenWrong : ChangeSpec := { name := "lawS2296CSendTaken", fn := fun _ => fun
  | [d1, d2, d3, d4, d5, d6, d7] => { results := [.lit (.bool false)], args := [d1, d2, d3, d4, d5, d6, d7] }
  | _ => none }
def LawS2296CSendTakenWrongFalsely : Prop := lawS2296CSendTakenRow.holds Yba.pinned (OpenSpec.ofChange lawS2296CSendTakenWrong)

/-- 'member.LawS2296CSendRefused': WHATEVER THE INPUT: true; the input reads as it did. -/
def lawS2296CSendRefusedSpec : ChangeSpec := { name := "lawS2296CSendRefused", fn := fun _ => fun
  | [d1, d2, d3, d4, d5, d6, d7] => { results := [.lit (.bool true)], args := [d1, d2, d3, d4, d5, d6, d7] }
  | _ => none }
def lawS2296CSendRefusedRow : OpenClaim := { program := "ybulkauni", sum := "65486c5fff140c616561c7c689eac374795eb192a2a98516df25491110e252c5", func := "example.com/quorumlog/quorumlog/internal/member.LawS2296CSendRefused", spec := "lawS2296CSendRefused", unfollowed := true, recurses := true, plainKeys := false, apart := false }
def LawS2296CSendRefusedSaid : Prop := lawS2296CSendRefusedRow.holds Yba.pinned (OpenSpec.ofChange lawS2296CSendRefusedSpec)

/-- ITS FALSE NEIGHBOUR: 'it returns false'. Refute it at one input. -/
def lawS2296CSendRefusedWrong : ChangeSpec := { name := "lawS2296CSendRefused", fn := fun _ => fun
  | [d1, d2, d3, d4, d5, d6, d7] => { results := [.lit (.bool false)], args := [d1, d2, d3, d4, d5, d6, d7] }
  | _ => none }
def LawS2296CSendRefusedWrongFalsely : Prop := lawS2296CSendRefusedRow.holds Yba.pinned (OpenSpec.ofChange lawS2296CSendRefusedWrong)

end Rows
end Go.Proofs.Ybulkauni
