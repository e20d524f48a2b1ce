/-
  No cell of these rows narrows 'for every input' (looked for: loops, veiled, ifaces, maps, wideKeys, modest, calm, conditions, laid).
  DERIVED. THE GIVEN ROWS OF THIS SEAT. 1 by the template 'for every input the law returns true; each argument reads behind the call as it read before'; 0 by the template 'total and deterministic' (their statements: YbulkfqjoTotals.lean).
  GIVEN WITH THE SEED: the statements are not yours to turn. If you find one false, say at which input.
  Laid BY PROGRAM, IN A SANDBOX (cutbox-rows.mjs): the forced cells as the released guide's own fill.sh prints them over the translation 6a6f44b43ee1a285… (all of the seat's roots in one cut). By AI agents, Wed Nov 11 2026. No macro, syntax, notation, axiom, sorry.
-/
import Derived.Test.YbulkfqjoChecked
import GoSem.Claim
import GoSem.ClaimJoined
import GoSem.ClaimMapViews
import Derived.JoinedTies
import Derived.KernelRfl
namespace Go.Proofs.Ybulkfqjo
/- THE CELL 'sum', in the pinned program and in every row, IS THE sha256 OF THE DUMP (.gsa) THAT YbulkfqjoProg.lean LOADS. Nothing in Lean hashes anything: it is a label: what it is worth is what the hold of that sum in a sandbox is worth. -/
noncomputable def Yba.pinned : Pinned := { name := "ybulkfqjo", sum := "6a6f44b43ee1a285f992869fe2e9ccc07ffd3936afd5bc692b70041559afa230", checked := Yba.checked }
namespace Rows
def none {H : Type} : Left H := { results := [], args := [] }

/-- 'swarm.LawS8373CWhole': WHATEVER THE INPUT: true; the input reads as it did. -/
def lawS8373CWholeSpec : ChangeSpec := { name := "lawS8373CWhole", fn := fun _ => fun
  | [d1, d2, d3, d4, d5, d6] => { results := [.lit (.bool true)], args := [d1, d2, d3, d4, d5, d6] }
  | _ => none }
def lawS8373CWholeRow : OpenClaim := { program := "ybulkfqjo", sum := "6a6f44b43ee1a285f992869fe2e9ccc07ffd3936afd5bc692b70041559afa230", func := "example.com/ripplecast/ripplecast/internal/swarm.LawS8373CWhole", spec := "lawS8373CWhole", unfollowed := true, recurses := true, plainKeys := false, apart := false }
def LawS8373CWholeSaid : Prop := lawS8373CWholeRow.holds Yba.pinned (OpenSpec.ofChange lawS8373CWholeSpec)

/-- ITS FALSE NEIGHBOUR: 'it returns false'. Refute it at one input. -/
def lawS8373CWholeWrong : ChangeSpec := { name := "lawS8373CWhole", fn := fun _ => fun
  | [d1, d2, d3, d4, d5, d6] => { results := [.lit (.bool false)], args := [d1, d2, d3, d4, d5, d6] }
  | _ => none }
def LawS8373CWholeWrongFalsely : Prop := lawS8373CWholeRow.holds Yba.pinned (OpenSpec.ofChange lawS8373CWholeWrong)

end Rows
end Go.Proofs.Ybulkfqjo
