/-
  No cell of these rows narrows 'for every input' (looked for: loops, veiled, ifaces, maps, wideKeys, modest, calm, conditions, laid).
  DERIVED. THE GIVEN ROWS OF THIS SEAT. 2 by the template 'for every input the law returns true; each argument reads behind the call as it read before'; 0 by the template 'total and deterministic' (their statements: YbulkfqakTotals.lean).
  GIVEN WITH THE SEED: the statements are not yours to turn. If you find one false, say at which input.
  Laid BY PROGRAM, IN A SANDBOX (cutbox-rows.mjs): the forced cells as the released guide's own fill.sh prints them over the translation 03e442d95028e27b… (all of the seat's roots in one cut). By AI agents, Wed Nov 11 2026. No macro, syntax, notation, axiom, sorry.
-/
import Derived.Test.YbulkfqakChecked
import GoSem.Claim
import GoSem.ClaimJoined
import GoSem.ClaimMapViews
import Derived.JoinedTies
import Derived.KernelRfl
namespace Go.Proofs.Ybulkfqak
/- THE CELL 'sum', in the pinned program and in every row, IS THE sha256 OF THE DUMP (.gsa) THAT YbulkfqakProg.lean LOADS. Nothing in Lean hashes anything: it is a label: what it is worth is what the hold of that sum in a sandbox is worth. -/
noncomputable def Yba.pinned : Pinned := { name := "ybulkfqak", sum := "03e442d95028e27bdaf5c86c57bcc6adc81d2f13bc9825e85ae4365cb744970a", checked := Yba.checked }
namespace Rows
def none {H : Type} : Left H := { results := [], args := [] }

/-- 'heapdump.LawS8356BWhole': WHATEVER THE INPUT: true; the input reads as it did. -/
def lawS8356BWholeSpec : ChangeSpec := { name := "lawS8356BWhole", fn := fun _ => fun
  | [d1, d2] => { results := [.lit (.bool true)], args := [d1, d2] }
  | _ => none }
def lawS8356BWholeRow : OpenClaim := { program := "ybulkfqak", sum := "03e442d95028e27bdaf5c86c57bcc6adc81d2f13bc9825e85ae4365cb744970a", func := "example.com/midden/midden/pkg/heapdump.LawS8356BWhole", spec := "lawS8356BWhole", apart := false }
def LawS8356BWholeSaid : Prop := lawS8356BWholeRow.holds Yba.pinned (OpenSpec.ofChange lawS8356BWholeSpec)

/-- ITS FALSE NEIGHBOUR: 'it returns false'. Refute it at one input. -/
def lawS8356BWholeWrong : ChangeSpec := { name := "lawS8356BWhole", fn := fun _ => fun
  | [d1, d2] => { results := [.lit (.bool false)], args := [d1, d2] }
  | _ => none }
def LawS8356BWholeWrongFalsely : Prop := lawS8356BWholeRow.holds Yba.pinned (OpenSpec.ofChange lawS8356BWholeWrong)

/-- 'gotypes.LawS8356CWhole': WHATEVER THE INPUT: true; the input reads as it did. -/
def lawS8356CWholeSpec : ChangeSpec := { name := "lawS8356CWhole", fn := fun _ => fun
  | [d1, d2, d3] => { results := [.lit (.bool true)], args := [d1, d2, d3] }
  | _ => none }
def lawS8356CWholeRow : OpenClaim := { program := "ybulkfqak", sum := "03e442d95028e27bdaf5c86c57bcc6adc81d2f13bc9825e85ae4365cb744970a", func := "example.com/midden/midden/pkg/gotypes.LawS8356CWhole", spec := "lawS8356CWhole", unfollowed := true, recurses := true, apart := false }
def LawS8356CWholeSaid : Prop := lawS8356CWholeRow.holds Yba.pinned (OpenSpec.ofChange lawS8356CWholeSpec)

/-- ITS FALSE NEIGHBOUR: 'it returns false'. Refute it at one input. -/
def lawS8356CWholeWrong : ChangeSpec := { name := "lawS8356CWhole", fn := fun _ => fun
  | [d1, d2, d3] => { results := [.lit (.bool false)], args := [d1, d2, d3] }
  | _ => none }
def LawS8356CWholeWrongFalsely : Prop := lawS8356CWholeRow.holds Yba.pinned (OpenSpec.ofChange lawS8356CWholeWrong)

end Rows
end Go.Proofs.Ybulkfqak
