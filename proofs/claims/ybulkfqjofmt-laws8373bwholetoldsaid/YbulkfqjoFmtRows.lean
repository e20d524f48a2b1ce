/-
  No cell of these rows narrows 'for every input' (looked for: loops, veiled, ifaces, maps, wideKeys, modest, calm, conditions, laid).
  DERIVED. THE GIVEN ROWS OF THIS SEAT. 1 by the template 'for every input the law returns true; each argument reads behind the call as it read before'; 0 by the template 'total and deterministic' (their statements: YbulkfqjoFmtTotals.lean).
  GIVEN WITH THE SEED: the statements are not yours to turn. If you find one false, say at which input.
  Laid BY PROGRAM, IN A SANDBOX (cutbox-rows.mjs): the forced cells as the released guide's own fill.sh prints them over the translation de5c7ea48db9a24b… (all of the seat's roots in one cut). By AI agents, Wed Nov 11 2026. No macro, syntax, notation, axiom, sorry.
-/
import Derived.Test.YbulkfqjoFmtChecked
import GoSem.Claim
import GoSem.ClaimJoined
import GoSem.ClaimMapViews
import Derived.JoinedTies
import Derived.KernelRfl
namespace Go.Proofs.YbulkfqjoFmt
/- THE CELL 'sum', in the pinned program and in every row, IS THE sha256 OF THE DUMP (.gsa) THAT YbulkfqjoFmtProg.lean LOADS. Nothing in Lean hashes anything: it is a label: what it is worth is what the hold of that sum in a sandbox is worth. -/
noncomputable def Ybaf.pinned : Pinned := { name := "ybulkfqjofmt", sum := "de5c7ea48db9a24b942e53665dfc1e65c0b395884ca0edcb746764ce511c4a41", checked := Ybaf.checked }
namespace Rows
def none {H : Type} : Left H := { results := [], args := [] }

/-- 'swarm.LawS8373BWhole': WHATEVER THE INPUT: true; the input reads as it did. -/
def lawS8373BWholeSpec : ChangeSpec := { name := "lawS8373BWhole", fn := fun _ => fun
  | [d1, d2] => { results := [.lit (.bool true)], args := [d1, d2] }
  | _ => none }
def lawS8373BWholeRow : OpenClaim := { program := "ybulkfqjofmt", sum := "de5c7ea48db9a24b942e53665dfc1e65c0b395884ca0edcb746764ce511c4a41", func := "example.com/ripplecast/ripplecast/internal/swarm.LawS8373BWhole", spec := "lawS8373BWhole", stops := ["fmt.errorf"], inPlace := ["fmt.errorf"], apart := false }
/-- NO THEOREM (fmt's text is open here; it may be false): for the released tool's asking of the row's closed facts alone. THE STATEMENT IS 'LawS8373BWholeToldSaid' (YbulkfqjoFmtCards.lean). -/
def LawS8373BWholeFormAsk : Prop := lawS8373BWholeRow.holds Ybaf.pinned (OpenSpec.ofChange lawS8373BWholeSpec)

/-- ITS FALSE NEIGHBOUR: 'it returns false'. Refute it at one input. -/
def lawS8373BWholeWrong : ChangeSpec := { name := "lawS8373BWhole", fn := fun _ => fun
  | [d1, d2] => { results := [.lit (.bool false)], args := [d1, d2] }
  | _ => none }
def LawS8373BWholeWrongFormAsk : Prop := lawS8373BWholeRow.holds Ybaf.pinned (OpenSpec.ofChange lawS8373BWholeWrong)

end Rows
end Go.Proofs.YbulkfqjoFmt
