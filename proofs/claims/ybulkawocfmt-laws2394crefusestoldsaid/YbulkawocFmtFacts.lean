import Derived.Test.YbulkawocFmtRows
import Derived.Stop.CallBack
import Derived.Stop.IfaceNil
import Derived.WalkKit
import Derived.WalkSpells
import Derived.WalkLawsBesides
import Derived.RowKit3
import GoSem.ClaimData
namespace Go.Proofs.YbulkawocFmt
open Go.Extern.Stop Go.Stop Go.Extern Go.RowKit
set_option linter.unusedVariables false

theorem call9 (args : Array Value) (w : World) : (callFunc 9 args).run Ybaf.prog w = ((FmtStop.sprintf #[9, 94] #[9] args).run Ybaf.prog w).andThen fun v w' => .ok (.value v) w' :=
  run_callFunc_extern Ybaf.func9 (by kernel_rfl) (by kernel_rfl) (by kernel_rfl) (by kernel_rfl) args w
theorem fguard (name : String) (w : World) : (FmtStop.guard name).run Ybaf.prog w = .ok () w := by kernel_rfl

/-- "amount must be an integer from 1 to %d" -/
def fmtBytes : Array UInt8 := #[97, 109, 111, 117, 110, 116, 32, 109, 117, 115, 116, 32, 98, 101, 32, 97, 110, 32, 105, 110, 116, 101, 103, 101, 114, 32, 102, 114, 111, 109, 32, 49, 32, 116, 111, 32, 37, 100]
theorem fmt0 : FmtStop.printed? ⟨#[97, 109, 111, 117, 110, 116, 32, 109, 117, 115, 116, 32, 98, 101, 32, 97, 110, 32, 105, 110, 116, 101, 103, 101, 114, 32, 102, 114, 111, 109, 32, 49, 32, 116, 111, 32, 37, 100]⟩ 1 = some [(0, 100, false)] := by kernel_rfl
theorem fmt0r (w : World) : (FmtDoors.printed ⟨#[97, 109, 111, 117, 110, 116, 32, 109, 117, 115, 116, 32, 98, 101, 32, 97, 110, 32, 105, 110, 116, 101, 103, 101, 114, 32, 102, 114, 111, 109, 32, 49, 32, 116, 111, 32, 37, 100]⟩ 1).run Ybaf.prog w = .ok [(0, 100, false)] w := by kernel_rfl

def shape22 : List UInt8 := [5, 13, 0, 0, 0, 0, 0, 0, 0, 108, 101, 100, 103, 101, 114, 46, 65, 109, 111, 117, 110, 116]
theorem op22 (name : String) (x : Int) (w : World) : (FmtStop.operand name false 100 false (.iface 22 (.int .i64 x))).run Ybaf.prog w = .ok (shape22, Go.Extern.Stop.digits 8 (x % 2 ^ 64).toNat) w := by kernel_rfl

end Go.Proofs.YbulkawocFmt
