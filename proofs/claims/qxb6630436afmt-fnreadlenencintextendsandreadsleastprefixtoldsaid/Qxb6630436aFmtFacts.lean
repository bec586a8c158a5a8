/-
  THE CLOSED FACTS FOR A WALK OVER fmt's STOPPED FRONT (fmt.Sprintf: function 13 of this dump), after the kit's print for the worked examples (LabelFmt.lean). Each by the kernel.
-/
import Derived.Test.Qxb6630436aFmtRows
import Derived.Stop.CallBack
import Derived.Stop.IfaceNil
import Derived.WalkKit
import Derived.WalkSpells
namespace Go.Proofs.Qxb6630436aFmt
open Go.Extern.Stop Go.Stop Go.Extern Go.RowKit

theorem call13 (args : Array Value) (w : World) : (callFunc 13 args).run Tryf.prog w = ((FmtStop.sprintf #[9, 77] #[9] args).run Tryf.prog w).andThen fun v w' => .ok (.value v) w' :=
  run_callFunc_extern Tryf.func13 (by kernel_rfl) (by kernel_rfl) (by kernel_rfl) (by kernel_rfl) args w
theorem guard (name : String) (w : World) : (FmtStop.guard name).run Tryf.prog w = .ok () w := by kernel_rfl

-- the formats
theorem fmt1 : FmtStop.printed? ⟨#[110, 111, 32, 105, 110, 116, 60, 108, 101, 110, 101, 110, 99, 62, 32, 115, 116, 97, 114, 116, 115, 32, 119, 105, 116, 104, 32, 37, 35, 48, 50, 120]⟩ 1 = some [(0, 120, true)] := by kernel_rfl
theorem fmt1r (w : World) : (FmtDoors.printed ⟨#[110, 111, 32, 105, 110, 116, 60, 108, 101, 110, 101, 110, 99, 62, 32, 115, 116, 97, 114, 116, 115, 32, 119, 105, 116, 104, 32, 37, 35, 48, 50, 120]⟩ 1).run Tryf.prog w = .ok [(0, 120, true)] w := by kernel_rfl
theorem fmt2 : FmtStop.printed? ⟨#[37, 35, 48, 50, 120, 32, 110, 101, 101, 100, 115, 32, 37, 100, 32, 109, 111, 114, 101, 32, 98, 121, 116, 101, 115, 44, 32, 37, 100, 32, 108, 101, 102, 116]⟩ 3 = some [(0, 120, true), (1, 100, false), (2, 100, false)] := by kernel_rfl
theorem fmt2r (w : World) : (FmtDoors.printed ⟨#[37, 35, 48, 50, 120, 32, 110, 101, 101, 100, 115, 32, 37, 100, 32, 109, 111, 114, 101, 32, 98, 121, 116, 101, 115, 44, 32, 37, 100, 32, 108, 101, 102, 116]⟩ 3).run Tryf.prog w = .ok [(0, 120, true), (1, 100, false), (2, 100, false)] w := by kernel_rfl
theorem fmt3 : FmtStop.printed? ⟨#[105, 110, 116, 60, 37, 100, 62]⟩ 1 = some [(0, 100, false)] := by kernel_rfl
theorem fmt3r (w : World) : (FmtDoors.printed ⟨#[105, 110, 116, 60, 37, 100, 62]⟩ 1).run Tryf.prog w = .ok [(0, 100, false)] w := by kernel_rfl
theorem fmt4 : FmtStop.printed? ⟨#[110, 101, 101, 100, 115, 32, 37, 100, 32, 98, 121, 116, 101, 115, 44, 32, 37, 100, 32, 108, 101, 102, 116]⟩ 2 = some [(0, 100, false), (1, 100, false)] := by kernel_rfl
theorem fmt4r (w : World) : (FmtDoors.printed ⟨#[110, 101, 101, 100, 115, 32, 37, 100, 32, 98, 121, 116, 101, 115, 44, 32, 37, 100, 32, 108, 101, 102, 116]⟩ 2).run Tryf.prog w = .ok [(0, 100, false), (1, 100, false)] w := by kernel_rfl

-- the operands
def shape3 : List UInt8 := [5, 3, 0, 0, 0, 0, 0, 0, 0, 105, 110, 116]
theorem op3_100 (name : String) (x : Int) (w : World) : (FmtStop.operand name false 100 false (.iface 3 (.int .i64 x))).run Tryf.prog w = .ok (shape3, Go.Extern.Stop.digits 8 (x % 2 ^ 64).toNat) w := by kernel_rfl
def shape5 : List UInt8 := [6, 5, 0, 0, 0, 0, 0, 0, 0, 117, 105, 110, 116, 56]
theorem op5_120 (name : String) (x : Int) (w : World) : (FmtStop.operand name false 120 true (.iface 5 (.int .u8 x))).run Tryf.prog w = .ok (shape5, Go.Extern.Stop.digits 8 (x % 2 ^ 64).toNat) w := by kernel_rfl
end Go.Proofs.Qxb6630436aFmt
