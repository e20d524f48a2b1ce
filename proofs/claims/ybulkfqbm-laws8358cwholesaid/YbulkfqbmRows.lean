/-
  No cell of these rows narrows 'for every input' (looked for: loops, veiled, ifaces, maps, wideKeys, modest, calm, conditions, laid).
  DERIVED. THE GIVEN ROWS OF THIS SEAT. 2 by the template 'for every input the law returns true; each argument reads behind the call as it read before'; 0 by the template 'total and deterministic' (their statements: YbulkfqbmTotals.lean).
  GIVEN WITH THE SEED: the statements are not yours to turn. If you find one false, say at which input.
  Laid BY PROGRAM, IN A SANDBOX (cutbox-rows.mjs): the forced cells as the released guide's own fill.sh prints them over the translation eda40dd57bf548a6… (all of the seat's roots in one cut). By AI agents, Wed Nov 11 2026. No macro, syntax, notation, axiom, sorry.
-/
import Derived.Test.YbulkfqbmChecked
import GoSem.Claim
import GoSem.ClaimJoined
import GoSem.ClaimMapViews
import Derived.JoinedTies
import Derived.KernelRfl
namespace Go.Proofs.Ybulkfqbm
/- THE CELL 'sum', in the pinned program and in every row, IS THE sha256 OF THE DUMP (.gsa) THAT YbulkfqbmProg.lean LOADS. Nothing in Lean hashes anything: it is a label: what it is worth is what the hold of that sum in a sandbox is worth. -/
noncomputable def Yba.pinned : Pinned := { name := "ybulkfqbm", sum := "eda40dd57bf548a6b48baca6768fdf390cc03a392fbda816883ff83bb955af0f", checked := Yba.checked }
namespace Rows
def none {H : Type} : Left H := { results := [], args := [] }

/-- 'decimal.LawS8358CWhole': WHATEVER THE INPUT: true; the input reads as it did. -/
def lawS8358CWholeSpec : ChangeSpec := { name := "lawS8358CWhole", fn := fun _ => fun
  | [d1, d2, d3, d4, d5, d6, d7] => { results := [.lit (.bool true)], args := [d1, d2, d3, d4, d5, d6, d7] }
  | _ => none }
def lawS8358CWholeRow : OpenClaim := { program := "ybulkfqbm", sum := "eda40dd57bf548a6b48baca6768fdf390cc03a392fbda816883ff83bb955af0f", func := "example.com/commitwise/commitwise/internal/decimal.LawS8358CWhole", spec := "lawS8358CWhole", apart := false }
def LawS8358CWholeSaid : Prop := lawS8358CWholeRow.holds Yba.pinned (OpenSpec.ofChange lawS8358CWholeSpec)

/-- ITS FALSE NEIGHBOUR: 'it returns false'. Refute it at one input. -/
def lawS8358CWholeWrong : ChangeSpec := { name := "lawS8358CWhole", fn := fun _ => fun
  | [d1, d2, d3, d4, d5, d6, d7] => { results := [.lit (.bool false)], args := [d1, d2, d3, d4, d5, d6, d7] }
  | _ => none }
def LawS8358CWholeWrongFalsely : Prop := lawS8358CWholeRow.holds Yba.pinned (OpenSpec.ofChange lawS8358CWholeWrong)

/-- 'decimal.LawS8358CFromInt': WHATEVER THE INPUT: true; the input reads as it did. -/
def lawS8358CFromIntSpec : ChangeSpec := { name := "lawS8358CFromInt", fn := fun _ => fun
  | [d] => { results := [.lit (.bool true)], args := [d] }
  | _ => none }
def lawS8358CFromIntRow : OpenClaim := { program := "ybulkfqbm", sum := "eda40dd57bf548a6b48baca6768fdf390cc03a392fbda816883ff83bb955af0f", func := "example.com/commitwise/commitwise/internal/decimal.LawS8358CFromInt", spec := "lawS8358CFromInt", apart := false }
def LawS8358CFromIntSaid : Prop := lawS8358CFromIntRow.holds Yba.pinned (OpenSpec.ofChange lawS8358CFromIntSpec)

/-- ITS FALSE NEIGHBOUR: 'it returns false'. Refute it at one input. -/
def lawS8358CFromIntWrong : ChangeSpec := { name := "lawS8358CFromInt", fn := fun _ => fun
  | [d] => { results := [.lit (.bool false)], args := [d] }
  | _ => none }
def LawS8358CFromIntWrongFalsely : Prop := lawS8358CFromIntRow.holds Yba.pinned (OpenSpec.ofChange lawS8358CFromIntWrong)

end Rows
end Go.Proofs.Ybulkfqbm
