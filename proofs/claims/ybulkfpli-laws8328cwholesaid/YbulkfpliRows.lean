/-
  No cell of these rows narrows 'for every input' (looked for: loops, veiled, ifaces, maps, wideKeys, modest, calm, conditions, laid).
  DERIVED. THE GIVEN ROWS OF THIS SEAT. 1 by the template 'for every input the law returns true; each argument reads behind the call as it read before'; 0 by the template 'total and deterministic' (their statements: YbulkfpliTotals.lean).
  GIVEN WITH THE SEED: the statements are not yours to turn. If you find one false, say at which input.
  Laid BY PROGRAM, IN A SANDBOX (cutbox-rows.mjs): the forced cells as the released guide's own fill.sh prints them over the translation de902c3f65c0fbb3… (all of the seat's roots in one cut). By AI agents, Wed Nov 11 2026. No macro, syntax, notation, axiom, sorry.
-/
import Derived.Test.YbulkfpliChecked
import GoSem.Claim
import GoSem.ClaimJoined
import GoSem.ClaimMapViews
import Derived.JoinedTies
import Derived.KernelRfl
namespace Go.Proofs.Ybulkfpli
/- THE CELL 'sum', in the pinned program and in every row, IS THE sha256 OF THE DUMP (.gsa) THAT YbulkfpliProg.lean LOADS. Nothing in Lean hashes anything: it is a label: what it is worth is what the hold of that sum in a sandbox is worth. -/
noncomputable def Yba.pinned : Pinned := { name := "ybulkfpli", sum := "de902c3f65c0fbb38d06ab256bbd3a8242de81bb6f06d11b3baf20f65747e662", checked := Yba.checked }
namespace Rows
def none {H : Type} : Left H := { results := [], args := [] }

/-- 'pull.LawS8328CWhole': WHATEVER THE INPUT: true; the input reads as it did. -/
def lawS8328CWholeSpec : ChangeSpec := { name := "lawS8328CWhole", fn := fun _ => fun
  | [d1, d2, d3, d4, d5, d6, d7, d8, d9, d10] => { results := [.lit (.bool true)], args := [d1, d2, d3, d4, d5, d6, d7, d8, d9, d10] }
  | _ => none }
def lawS8328CWholeRow : OpenClaim := { program := "ybulkfpli", sum := "de902c3f65c0fbb38d06ab256bbd3a8242de81bb6f06d11b3baf20f65747e662", func := "example.com/refbound/refbound/pull.LawS8328CWhole", spec := "lawS8328CWhole", apart := false }
def LawS8328CWholeSaid : Prop := lawS8328CWholeRow.holds Yba.pinned (OpenSpec.ofChange lawS8328CWholeSpec)

/-- ITS FALSE NEIGHBOUR: 'it returns false'. Refute it at one input. -/
def lawS8328CWholeWrong : ChangeSpec := { name := "lawS8328CWhole", fn := fun _ => fun
  | [d1, d2, d3, d4, d5, d6, d7, d8, d9, d10] => { results := [.lit (.bool false)], args := [d1, d2, d3, d4, d5, d6, d7, d8, d9, d10] }
  | _ => none }
def LawS8328CWholeWrongFalsely : Prop := lawS8328CWholeRow.holds Yba.pinned (OpenSpec.ofChange lawS8328CWholeWrong)

end Rows
end Go.Proofs.Ybulkfpli
