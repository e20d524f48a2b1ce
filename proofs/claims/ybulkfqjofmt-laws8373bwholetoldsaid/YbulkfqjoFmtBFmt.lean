import Derived.Test.YbulkfqjoFmtCards
import Derived.Stop.CallBack
import Derived.Stop.IfaceNil
import Derived.WalkKit
import Derived.WalkSpells
import Derived.WalkLawsBesides
namespace Go.Proofs.YbulkfqjoFmt
open Go.RowKit Go.Extern.Stop Go.Stop Go.Extern

/-! The closed facts on fmt's stopped front, at this program's numbers. -/
theorem call9 (args : Array Value) (w : World) : (callFunc 9 args).run Ybaf.prog w = ((FmtStop.errorf #[9, 34] #[26] args).run Ybaf.prog w).andThen fun v w' => .ok (.value v) w' :=
  run_callFunc_extern Ybaf.func9 (by kernel_rfl) (by kernel_rfl) (by kernel_rfl) (by kernel_rfl) args w
theorem fguard (name : String) (w : World) : (FmtStop.guard name).run Ybaf.prog w = .ok () w := by kernel_rfl
theorem fmt0 : FmtStop.printed? ⟨#[112, 114, 111, 116, 111, 99, 111, 108, 32, 101, 114, 114, 111, 114, 58, 32, 97, 32, 109, 97, 108, 102, 111, 114, 109, 101, 100, 32, 37, 113, 32, 102, 114, 97, 109, 101, 32, 111, 102, 32, 37, 100, 32, 98, 121, 116, 101, 115]⟩ 2 = some [(0, 113, false), (1, 100, false)] := by kernel_rfl
theorem fmt0r (w : World) : (FmtDoors.printed ⟨#[112, 114, 111, 116, 111, 99, 111, 108, 32, 101, 114, 114, 111, 114, 58, 32, 97, 32, 109, 97, 108, 102, 111, 114, 109, 101, 100, 32, 37, 113, 32, 102, 114, 97, 109, 101, 32, 111, 102, 32, 37, 100, 32, 98, 121, 116, 101, 115]⟩ 2).run Ybaf.prog w = .ok [(0, 113, false), (1, 100, false)] w := by kernel_rfl
def shape32 : List UInt8 := [6, 15, 0, 0, 0, 0, 0, 0, 0, 115, 119, 97, 114, 109, 46, 102, 114, 97, 109, 101, 75, 105, 110, 100]
def shape3 : List UInt8 := [5, 3, 0, 0, 0, 0, 0, 0, 0, 105, 110, 116]
theorem op32 (name : String) (b : Bool) (x : Int) (w : World) : (FmtStop.operand name b 113 false (.iface 32 (.int .u8 x))).run Ybaf.prog w = .ok (shape32, Go.Extern.Stop.digits 8 (x % 2 ^ 64).toNat) w := by
  cases b <;> kernel_rfl
theorem op3 (name : String) (b : Bool) (x : Int) (w : World) : (FmtStop.operand name b 100 false (.iface 3 (.int .i64 x))).run Ybaf.prog w = .ok (shape3, Go.Extern.Stop.digits 8 (x % 2 ^ 64).toNat) w := by
  cases b <;> kernel_rfl
theorem ptr37 (w : World) : (FmtStop.ptrTo "errors.errorString").run Ybaf.prog w = .ok 37 w := by kernel_rfl
theorem elem37 (w : World) : (elemOf 37).run Ybaf.prog w = .ok 39 w := by kernel_rfl

set_option maxRecDepth 100000 in
set_option maxHeartbeats 1000000 in
theorem malformed_any (F : Interp) (a : Option Addr) (n cap : Nat) (w : World) (hF : F.answers w.tape) :
    Calls Ybaf.prog 7 #[.int .u8 86, .slice a n cap] w fun e w' => ∃ x, e = .returned (.iface 37 (.pointer (some x))) ∧ Below w.heap.size w w' := by
  have hF' : ∀ i name reading k range, w.tape i (.extern (word name reading k) range) = F name reading k := hF
  have h1 := call9
  have h2 := fguard
  have h3 := fmt0
  have h4 := fmt0r
  have h5 := op32
  have h6 := op3
  have h7 := ptr37
  have h8 := elem37
  go_enter Ybaf.func7, Ybaf.ntmps7
  go_wp2
  go_ret
  exact ⟨⟨_, rfl⟩, (((Below.refl _ _).alloc (Nat.le_refl _) _).alloc (by simp) _).drew⟩
end Go.Proofs.YbulkfqjoFmt
