/-
  No cell of these rows narrows 'for every input' (looked for: loops, veiled, ifaces, maps, wideKeys, modest, calm, conditions, laid).
  DERIVED. THE GIVEN ROWS OF THIS SEAT. 1 by the template 'for every input the law returns true; each argument reads behind the call as it read before'; 0 by the template 'total and deterministic' (their statements: YbulkctbeFmtTotals.lean).
  GIVEN WITH THE SEED: the statements are not yours to turn. If you find one false, say at which input.
  Laid BY PROGRAM, IN A SANDBOX (cutbox-rows.mjs): the forced cells as the released guide's own fill.sh prints them over the translation 5820e52e7df547cd… (all of the seat's roots in one cut). By AI agents, Wed Nov 11 2026. No macro, syntax, notation, axiom, sorry.
-/
import Derived.Test.YbulkctbeFmtChecked
import GoSem.Claim
import GoSem.ClaimJoined
import GoSem.ClaimMapViews
import Derived.JoinedTies
import Derived.KernelRfl
namespace Go.Proofs.YbulkctbeFmt
/- THE CELL 'sum', in the pinned program and in every row, IS THE sha256 OF THE DUMP (.gsa) THAT YbulkctbeFmtProg.lean LOADS. Nothing in Lean hashes anything: it is a label: what it is worth is what the hold of that sum in a sandbox is worth. -/
noncomputable def Ybaf.pinned : Pinned := { name := "ybulkctbefmt", sum := "5820e52e7df547cd3cfe4f6a8a0e738aa88d34d0a67905f37e0d377bc2c5a90f", checked := Ybaf.checked }
namespace Rows
def none {H : Type} : Left H := { results := [], args := [] }

/-- 'policy.LawS4736AMember': WHATEVER THE INPUT: true; the input reads as it did. -/
def lawS4736AMemberSpec : ChangeSpec := { name := "lawS4736AMember", fn := fun _ => fun
  | [d1, d2, d3, d4] => { results := [.lit (.bool true)], args := [d1, d2, d3, d4] }
  | _ => none }
def lawS4736AMemberRow : OpenClaim := { program := "ybulkctbefmt", sum := "5820e52e7df547cd3cfe4f6a8a0e738aa88d34d0a67905f37e0d377bc2c5a90f", func := "example.com/hedgerow/hedgerow/internal/policy.LawS4736AMember", spec := "lawS4736AMember", stops := ["fmt.errorf"], inPlace := ["fmt.errorf"], apart := false }
/-- NO THEOREM (fmt's text is open here; it may be false): for the released tool's asking of the row's closed facts alone. THE STATEMENT IS 'LawS4736AMemberToldSaid' (YbulkctbeFmtCards.lean). -/
def LawS4736AMemberFormAsk : Prop := lawS4736AMemberRow.holds Ybaf.pinned (OpenSpec.ofChange lawS4736AMemberSpec)

/-- ITS FALSE NEIGHBOUR: 'it returns false'. Refute it at one input. -/
def lawS4736AMemberWrong : ChangeSpec := { name := "lawS4736AMember", fn := fun _ => fun
  | [d1, d2, d3, d4] => { results := [.lit (.bool false)], args := [d1, d2, d3, d4] }
  | _ => none }
def LawS4736AMemberWrongFormAsk : Prop := lawS4736AMemberRow.holds Ybaf.pinned (OpenSpec.ofChange lawS4736AMemberWrong)

end Rows
end Go.Proofs.YbulkctbeFmt
