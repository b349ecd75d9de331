/-
  No cell of these rows narrows 'for every input' (looked for: loops, veiled, ifaces, maps, wideKeys, modest, calm, conditions, laid).
  DERIVED. THE GIVEN ROWS OF THIS SEAT. 2 by the template 'for every input the law returns true; each argument reads behind the call as it read before'; 0 by the template 'total and deterministic' (their statements: YbulkctfmTotals.lean).
  GIVEN WITH THE SEED: the statements are not yours to turn. If you find one false, say at which input.
  Laid BY PROGRAM, IN A SANDBOX (cutbox-rows.mjs): the forced cells as the released guide's own fill.sh prints them over the translation cd5510417f9d0048… (all of the seat's roots in one cut). By AI agents, Wed Nov 11 2026. No macro, syntax, notation, axiom, sorry.
-/
import Derived.Test.YbulkctfmChecked
import GoSem.Claim
import GoSem.ClaimJoined
import GoSem.ClaimMapViews
import Derived.JoinedTies
import Derived.KernelRfl
namespace Go.Proofs.Ybulkctfm
/- THE CELL 'sum', in the pinned program and in every row, IS THE sha256 OF THE DUMP (.gsa) THAT YbulkctfmProg.lean LOADS. Nothing in Lean hashes anything: it is a label: what it is worth is what the hold of that sum in a sandbox is worth. -/
noncomputable def Yba.pinned : Pinned := { name := "ybulkctfm", sum := "cd5510417f9d0048209d0cc4c486fcd2b26262f1a55a3ab6b45b3d179ce94a74", checked := Yba.checked }
namespace Rows
def none {H : Type} : Left H := { results := [], args := [] }

/-- 'sim.LawS4744AModel': WHATEVER THE INPUT: true; the input reads as it did. -/
def lawS4744AModelSpec : ChangeSpec := { name := "lawS4744AModel", fn := fun _ => fun
  | [d1, d2] => { results := [.lit (.bool true)], args := [d1, d2] }
  | _ => none }
def lawS4744AModelRow : OpenClaim := { program := "ybulkctfm", sum := "cd5510417f9d0048209d0cc4c486fcd2b26262f1a55a3ab6b45b3d179ce94a74", func := "example.com/bellows/bellows/sim.LawS4744AModel", spec := "lawS4744AModel", inPlace := ["math.Float64bits", "math.Float64frombits"], plainKeys := false, apart := false }
def LawS4744AModelSaid : Prop := lawS4744AModelRow.holds Yba.pinned (OpenSpec.ofChange lawS4744AModelSpec)

/-- ITS FALSE NEIGHBOUR: 'it returns false'. Refute it at one input. -/
def lawS4744AModelWrong : ChangeSpec := { name := "lawS4744AModel", fn := fun _ => fun
  | [d1, d2] => { results := [.lit (.bool false)], args := [d1, d2] }
  | _ => none }
def LawS4744AModelWrongFalsely : Prop := lawS4744AModelRow.holds Yba.pinned (OpenSpec.ofChange lawS4744AModelWrong)

/-- 'sim.LawS4744CSettled': WHATEVER THE INPUT: true; the input reads as it did. -/
def lawS4744CSettledSpec : ChangeSpec := { name := "lawS4744CSettled", fn := fun _ => fun
  | [d1, d2, d3, d4] => { results := [.lit (.bool true)], args := [d1, d2, d3, d4] }
  | _ => none }
def lawS4744CSettledRow : OpenClaim := { program := "ybulkctfm", sum := "cd5510417f9d0048209d0cc4c486fcd2b26262f1a55a3ab6b45b3d179ce94a74", func := "example.com/bellows/bellows/sim.LawS4744CSettled", spec := "lawS4744CSettled", inPlace := ["math.Float64frombits", "math/bits.Add64", "math.Float64bits"], recurses := true, plainKeys := false, apart := false }
def LawS4744CSettledSaid : Prop := lawS4744CSettledRow.holds Yba.pinned (OpenSpec.ofChange lawS4744CSettledSpec)

/-- ITS FALSE NEIGHBOUR: 'it returns false'. Refute it at one input. -/
def lawS4744CSettledWrong : ChangeSpec := { name := "lawS4744CSettled", fn := fun _ => fun
  | [d1, d2, d3, d4] => { results := [.lit (.bool false)], args := [d1, d2, d3, d4] }
  | _ => none }
def LawS4744CSettledWrongFalsely : Prop := lawS4744CSettledRow.holds Yba.pinned (OpenSpec.ofChange lawS4744CSettledWrong)

end Rows
end Go.Proofs.Ybulkctfm
