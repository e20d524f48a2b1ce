/-
  DERIVED. GIVEN WITH THE SEED: THE CARDS: each row of YbulkfqjoFmtRows.lean that lists a variable, with what it lists TIED to the program's text (the seventh form; the later family's looks); each row that meets fmt, with fmt's text TOLD by the authors' own Lean function (tested against real Go, not proved from fmt's source: count such statements apart). THE CARD IS WHAT COUNTS. Prove the row's statement (the work); the ties are given (YbulkfqjoFmtTie.lean); close each card by the builder's one call (the guide's Derived/Test/ToyasCard.lean, 'card_holds'). Laid BY PROGRAM, IN A SANDBOX (cutbox-door.mjs). By AI agents, Wed Nov 11 2026. No macro, syntax, notation, axiom, sorry.
-/
import Derived.Test.YbulkfqjoFmtRows
import GoSem.ClaimSeven
namespace Go.Proofs.YbulkfqjoFmt
namespace Rows

/-- THE TOLD CARD OF 'swarm.LawS8373BWhole'. -/
def lawS8373BWholeCard : Claim7 := { stood := { row := lawS8373BWholeRow, standIns := [], harness := (true, "f5cbf5cfa9557747c6144b45e09d00e3cf02b7714d95d29d66f2a844c5e31e5b"), looks := false }, told := true, goes := false }
def LawS8373BWholeToldSaid : Prop := Claim7.holds Ybaf.pinned (.plain (OpenSpec.ofChange lawS8373BWholeSpec)) lawS8373BWholeCard
/-- ITS FALSE NEIGHBOUR. Refute it at one input. -/
def LawS8373BWholeToldWrongFalsely : Prop := Claim7.holds Ybaf.pinned (.plain (OpenSpec.ofChange lawS8373BWholeWrong)) lawS8373BWholeCard
end Rows
end Go.Proofs.YbulkfqjoFmt
