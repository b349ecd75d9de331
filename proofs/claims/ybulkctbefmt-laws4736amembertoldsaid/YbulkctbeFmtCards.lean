/-
  DERIVED. GIVEN WITH THE SEED: THE CARDS: each row of YbulkctbeFmtRows.lean that lists a variable, with what it lists TIED to the program's text (the seventh form; the later family's looks); each row that meets fmt, with fmt's text TOLD by the authors' own Lean function (tested against real Go, not proved from fmt's source: count such statements apart). THE CARD IS WHAT COUNTS. Prove the row's statement (the work); the ties are given (YbulkctbeFmtTie.lean); close each card by the builder's one call (the guide's Derived/Test/ToyasCard.lean, 'card_holds'). Laid BY PROGRAM, IN A SANDBOX (cutbox-door.mjs). By AI agents, Wed Nov 11 2026. No macro, syntax, notation, axiom, sorry.
-/
import Derived.Test.YbulkctbeFmtRows
import GoSem.ClaimSeven
namespace Go.Proofs.YbulkctbeFmt
namespace Rows

/-- THE TOLD CARD OF 'policy.LawS4736AMember'. -/
def lawS4736AMemberCard : Claim7 := { stood := { row := lawS4736AMemberRow, standIns := [], harness := (true, "3807adfb128a489fbef81c316485c87e4ba9698f40528f10224a8dfa1c71d187"), looks := false }, told := true, goes := false }
def LawS4736AMemberToldSaid : Prop := Claim7.holds Ybaf.pinned (.plain (OpenSpec.ofChange lawS4736AMemberSpec)) lawS4736AMemberCard
/-- ITS FALSE NEIGHBOUR. Refute it at one input. -/
def LawS4736AMemberToldWrongFalsely : Prop := Claim7.holds Ybaf.pinned (.plain (OpenSpec.ofChange lawS4736AMemberWrong)) lawS4736AMemberCard
end Rows
end Go.Proofs.YbulkctbeFmt
