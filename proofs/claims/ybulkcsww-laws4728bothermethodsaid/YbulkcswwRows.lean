/-
  No cell of these rows narrows 'for every input' (looked for: loops, veiled, ifaces, maps, wideKeys, modest, calm, conditions, laid).
  DERIVED. THE GIVEN ROWS OF THIS SEAT. 7 by the template 'for every input the law returns true; each argument reads behind the call as it read before'; 0 by the template 'total and deterministic' (their statements: YbulkcswwTotals.lean).
  GIVEN WITH THE SEED: the statements are not yours to turn. If you find one false, say at which input.
  Laid BY PROGRAM, IN A SANDBOX (cutbox-rows.mjs): the forced cells as the released guide's own fill.sh prints them over the translation be3359928f7458c2… (all of the seat's roots in one cut). By AI agents, Wed Nov 11 2026. No macro, syntax, notation, axiom, sorry.
-/
import Derived.Test.YbulkcswwChecked
import GoSem.Claim
import GoSem.ClaimJoined
import GoSem.ClaimMapViews
import Derived.JoinedTies
import Derived.KernelRfl
namespace Go.Proofs.Ybulkcsww
/- THE CELL 'sum', in the pinned program and in every row, IS THE sha256 OF THE DUMP (.gsa) THAT YbulkcswwProg.lean LOADS. Nothing in Lean hashes anything: it is a label: what it is worth is what the hold of that sum in a sandbox is worth. -/
noncomputable def Yba.pinned : Pinned := { name := "ybulkcsww", sum := "be3359928f7458c2d6ef24611503e8eb7e0fbf7e19debe08828f8b3cbeafbd15", checked := Yba.checked }
namespace Rows
def none {H : Type} : Left H := { results := [], args := [] }

/-- 'inkstruct.LawS4728AGate': WHATEVER THE INPUT: true; the input reads as it did. -/
def lawS4728AGateSpec : ChangeSpec := { name := "lawS4728AGate", fn := fun _ => fun
  | [d1, d2, d3, d4, d5] => { results := [.lit (.bool true)], args := [d1, d2, d3, d4, d5] }
  | _ => none }
def lawS4728AGateRow : OpenClaim := { program := "ybulkcsww", sum := "be3359928f7458c2d6ef24611503e8eb7e0fbf7e19debe08828f8b3cbeafbd15", func := "example.com/inkstruct/inkstruct.LawS4728AGate", spec := "lawS4728AGate", unfollowed := true, recurses := true, apart := false }
def LawS4728AGateSaid : Prop := lawS4728AGateRow.holds Yba.pinned (OpenSpec.ofChange lawS4728AGateSpec)

/-- ITS FALSE NEIGHBOUR: 'it returns false'. Refute it at one input. -/
def lawS4728AGateWrong : ChangeSpec := { name := "lawS4728AGate", fn := fun _ => fun
  | [d1, d2, d3, d4, d5] => { results := [.lit (.bool false)], args := [d1, d2, d3, d4, d5] }
  | _ => none }
def LawS4728AGateWrongFalsely : Prop := lawS4728AGateRow.holds Yba.pinned (OpenSpec.ofChange lawS4728AGateWrong)

/-- 'inkstruct.LawS4728AStringValue': WHATEVER THE INPUT: true; the input reads as it did. -/
def lawS4728AStringValueSpec : ChangeSpec := { name := "lawS4728AStringValue", fn := fun _ => fun
  | [d1, d2, d3] => { results := [.lit (.bool true)], args := [d1, d2, d3] }
  | _ => none }
def lawS4728AStringValueRow : OpenClaim := { program := "ybulkcsww", sum := "be3359928f7458c2d6ef24611503e8eb7e0fbf7e19debe08828f8b3cbeafbd15", func := "example.com/inkstruct/inkstruct.LawS4728AStringValue", spec := "lawS4728AStringValue", unfollowed := true, recurses := true, apart := false }
def LawS4728AStringValueSaid : Prop := lawS4728AStringValueRow.holds Yba.pinned (OpenSpec.ofChange lawS4728AStringValueSpec)

/-- ITS FALSE NEIGHBOUR: 'it returns false'. Refute it at one input. -/
def lawS4728AStringValueWrong : ChangeSpec := { name := "lawS4728AStringValue", fn := fun _ => fun
  | [d1, d2, d3] => { results := [.lit (.bool false)], args := [d1, d2, d3] }
  | _ => none }
def LawS4728AStringValueWrongFalsely : Prop := lawS4728AStringValueRow.holds Yba.pinned (OpenSpec.ofChange lawS4728AStringValueWrong)

/-- 'inkstruct.LawS4728BWellFormed': WHATEVER THE INPUT: true; the input reads as it did. -/
def lawS4728BWellFormedSpec : ChangeSpec := { name := "lawS4728BWellFormed", fn := fun _ => fun
  | [d1, d2, d3] => { results := [.lit (.bool true)], args := [d1, d2, d3] }
  | _ => none }
def lawS4728BWellFormedRow : OpenClaim := { program := "ybulkcsww", sum := "be3359928f7458c2d6ef24611503e8eb7e0fbf7e19debe08828f8b3cbeafbd15", func := "example.com/inkstruct/inkstruct.LawS4728BWellFormed", spec := "lawS4728BWellFormed", apart := false }
def LawS4728BWellFormedSaid : Prop := lawS4728BWellFormedRow.holds Yba.pinned (OpenSpec.ofChange lawS4728BWellFormedSpec)

/-- ITS FALSE NEIGHBOUR: 'it returns false'. Refute it at one input. -/
def lawS4728BWellFormedWrong : ChangeSpec := { name := "lawS4728BWellFormed", fn := fun _ => fun
  | [d1, d2, d3] => { results := [.lit (.bool false)], args := [d1, d2, d3] }
  | _ => none }
def LawS4728BWellFormedWrongFalsely : Prop := lawS4728BWellFormedRow.holds Yba.pinned (OpenSpec.ofChange lawS4728BWellFormedWrong)

/-- 'inkstruct.LawS4728BOtherMethod': WHATEVER THE INPUT: true; the input reads as it did. -/
def lawS4728BOtherMethodSpec : ChangeSpec := { name := "lawS4728BOtherMethod", fn := fun _ => fun
  | [d1, d2, d3] => { results := [.lit (.bool true)], args := [d1, d2, d3] }
  | _ => none }
def lawS4728BOtherMethodRow : OpenClaim := { program := "ybulkcsww", sum := "be3359928f7458c2d6ef24611503e8eb7e0fbf7e19debe08828f8b3cbeafbd15", func := "example.com/inkstruct/inkstruct.LawS4728BOtherMethod", spec := "lawS4728BOtherMethod", apart := false }
def LawS4728BOtherMethodSaid : Prop := lawS4728BOtherMethodRow.holds Yba.pinned (OpenSpec.ofChange lawS4728BOtherMethodSpec)

/-- ITS FALSE NEIGHBOUR: 'it returns false'. Refute it at one input. -/
def lawS4728BOtherMethodWrong : ChangeSpec := { name := "lawS4728BOtherMethod", fn := fun _ => fun
  | [d1, d2, d3] => { results := [.lit (.bool false)], args := [d1, d2, d3] }
  | _ => none }
def LawS4728BOtherMethodWrongFalsely : Prop := lawS4728BOtherMethodRow.holds Yba.pinned (OpenSpec.ofChange lawS4728BOtherMethodWrong)

/-- 'inkstruct.LawS4728BMalformed': WHATEVER THE INPUT: true; the input reads as it did. -/
def lawS4728BMalformedSpec : ChangeSpec := { name := "lawS4728BMalformed", fn := fun _ => fun
  | [d1, d2, d3, d4] => { results := [.lit (.bool true)], args := [d1, d2, d3, d4] }
  | _ => none }
def lawS4728BMalformedRow : OpenClaim := { program := "ybulkcsww", sum := "be3359928f7458c2d6ef24611503e8eb7e0fbf7e19debe08828f8b3cbeafbd15", func := "example.com/inkstruct/inkstruct.LawS4728BMalformed", spec := "lawS4728BMalformed", inPlace := ["internal/bytealg.IndexByteString", "internal/bytealg.IndexString"], named := ["internal/bytealg.MaxLen"], apart := false }
def LawS4728BMalformedSaid : Prop := lawS4728BMalformedRow.holds Yba.pinned (OpenSpec.ofChange lawS4728BMalformedSpec)

/-- ITS FALSE NEIGHBOUR: 'it returns false'. Refute it at one input. -/
def lawS4728BMalformedWrong : ChangeSpec := { name := "lawS4728BMalformed", fn := fun _ => fun
  | [d1, d2, d3, d4] => { results := [.lit (.bool false)], args := [d1, d2, d3, d4] }
  | _ => none }
def LawS4728BMalformedWrongFalsely : Prop := lawS4728BMalformedRow.holds Yba.pinned (OpenSpec.ofChange lawS4728BMalformedWrong)

/-- 'inkstruct.LawS4728CTable': WHATEVER THE INPUT: true; the input reads as it did. -/
def lawS4728CTableSpec : ChangeSpec := { name := "lawS4728CTable", fn := fun _ => fun
  | [d] => { results := [.lit (.bool true)], args := [d] }
  | _ => none }
def lawS4728CTableRow : OpenClaim := { program := "ybulkcsww", sum := "be3359928f7458c2d6ef24611503e8eb7e0fbf7e19debe08828f8b3cbeafbd15", func := "example.com/inkstruct/inkstruct.LawS4728CTable", spec := "lawS4728CTable", apart := false }
def LawS4728CTableSaid : Prop := lawS4728CTableRow.holds Yba.pinned (OpenSpec.ofChange lawS4728CTableSpec)

/-- ITS FALSE NEIGHBOUR: 'it returns false'. Refute it at one input. -/
def lawS4728CTableWrong : ChangeSpec := { name := "lawS4728CTable", fn := fun _ => fun
  | [d] => { results := [.lit (.bool false)], args := [d] }
  | _ => none }
def LawS4728CTableWrongFalsely : Prop := lawS4728CTableRow.holds Yba.pinned (OpenSpec.ofChange lawS4728CTableWrong)

/-- 'inkstruct.LawS4728CPairs': WHATEVER THE INPUT: true; the input reads as it did. -/
def lawS4728CPairsSpec : ChangeSpec := { name := "lawS4728CPairs", fn := fun _ => fun
  | [d] => { results := [.lit (.bool true)], args := [d] }
  | _ => none }
def lawS4728CPairsRow : OpenClaim := { program := "ybulkcsww", sum := "be3359928f7458c2d6ef24611503e8eb7e0fbf7e19debe08828f8b3cbeafbd15", func := "example.com/inkstruct/inkstruct.LawS4728CPairs", spec := "lawS4728CPairs", apart := false }
def LawS4728CPairsSaid : Prop := lawS4728CPairsRow.holds Yba.pinned (OpenSpec.ofChange lawS4728CPairsSpec)

/-- ITS FALSE NEIGHBOUR: 'it returns false'. Refute it at one input. -/
def lawS4728CPairsWrong : ChangeSpec := { name := "lawS4728CPairs", fn := fun _ => fun
  | [d] => { results := [.lit (.bool false)], args := [d] }
  | _ => none }
def LawS4728CPairsWrongFalsely : Prop := lawS4728CPairsRow.holds Yba.pinned (OpenSpec.ofChange lawS4728CPairsWrong)

end Rows
end Go.Proofs.Ybulkcsww
