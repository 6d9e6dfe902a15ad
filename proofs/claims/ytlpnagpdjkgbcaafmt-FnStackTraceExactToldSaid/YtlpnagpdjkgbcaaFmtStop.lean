/- The closed facts for a walk over fmt.Sprintf's stop: written by our program wip/mkstop.py. -/
import Derived.Test.YtlpnagpdjkgbcaaFmtChecked
import Derived.Stop.CallBack
import Derived.Stop.IfaceNil
import GoSem.ClaimData
import Derived.KernelRfl
import Derived.Stop.FmtTextWidths
import Derived.Stop.FmtTextKit
import Derived.Stop.Told
import Derived.Stop.Texts
namespace Go.Proofs.YtlpnagpdjkgbcaaFmt
open Go.Extern.Stop Go.Stop Go.Extern
@[go_sem] theorem stopCall (args : Array Value) (w : World) : (callFunc 29 args).run Tryf.prog w = ((FmtStop.sprintf #[9, 159] #[9] args).run Tryf.prog w).andThen fun v w' => .ok (.value v) w' :=
  run_callFunc_extern Tryf.func29 (by kernel_rfl) (by kernel_rfl) (by kernel_rfl) (by kernel_rfl) args w
@[go_sem] theorem stopGuard (name : String) (w : World) : (FmtStop.guard name).run Tryf.prog w = .ok () w := by kernel_rfl
@[go_sem] theorem fmt0 : FmtStop.printed? ⟨#[9, 37, 118, 32, 105, 110, 32, 37, 118]⟩ 2 = some [(0, 118, false), (1, 118, false)] := by kernel_rfl
@[go_sem] theorem fmt0r (w : World) : (FmtDoors.printed ⟨#[9, 37, 118, 32, 105, 110, 32, 37, 118]⟩ 2).run Tryf.prog w = .ok [(0, 118, false), (1, 118, false)] w := by kernel_rfl
@[go_sem] theorem fmt1 : FmtStop.printed? ⟨#[9, 37, 118, 58, 32, 37, 118]⟩ 2 = some [(0, 118, false), (1, 118, false)] := by kernel_rfl
@[go_sem] theorem fmt1r (w : World) : (FmtDoors.printed ⟨#[9, 37, 118, 58, 32, 37, 118]⟩ 2).run Tryf.prog w = .ok [(0, 118, false), (1, 118, false)] w := by kernel_rfl
@[go_sem] theorem fmt2 : FmtStop.printed? ⟨#[37, 115, 10, 37, 115]⟩ 2 = some [(0, 115, false), (1, 115, false)] := by kernel_rfl
@[go_sem] theorem fmt2r (w : World) : (FmtDoors.printed ⟨#[37, 115, 10, 37, 115]⟩ 2).run Tryf.prog w = .ok [(0, 115, false), (1, 115, false)] w := by kernel_rfl
@[go_sem] theorem fmt3 : FmtStop.printed? ⟨#[37, 118, 58]⟩ 1 = some [(0, 118, false)] := by kernel_rfl
@[go_sem] theorem fmt3r (w : World) : (FmtDoors.printed ⟨#[37, 118, 58]⟩ 1).run Tryf.prog w = .ok [(0, 118, false)] w := by kernel_rfl
@[go_sem] theorem fmt4 : FmtStop.printed? ⟨#[37, 118, 58, 37, 118]⟩ 2 = some [(0, 118, false), (1, 118, false)] := by kernel_rfl
@[go_sem] theorem fmt4r (w : World) : (FmtDoors.printed ⟨#[37, 118, 58, 37, 118]⟩ 2).run Tryf.prog w = .ok [(0, 118, false), (1, 118, false)] w := by kernel_rfl
@[go_sem] theorem fmt5 : FmtStop.printed? ⟨#[102, 117, 110, 99, 116, 105, 111, 110, 32, 39, 37, 115, 39]⟩ 1 = some [(0, 115, false)] := by kernel_rfl
@[go_sem] theorem fmt5r (w : World) : (FmtDoors.printed ⟨#[102, 117, 110, 99, 116, 105, 111, 110, 32, 39, 37, 115, 39]⟩ 1).run Tryf.prog w = .ok [(0, 115, false)] w := by kernel_rfl
@[go_sem] theorem fmt6 : FmtStop.printed? ⟨#[102, 117, 110, 99, 116, 105, 111, 110, 32, 37, 115]⟩ 1 = some [(0, 115, false)] := by kernel_rfl
@[go_sem] theorem fmt6r (w : World) : (FmtDoors.printed ⟨#[102, 117, 110, 99, 116, 105, 111, 110, 32, 37, 115]⟩ 1).run Tryf.prog w = .ok [(0, 115, false)] w := by kernel_rfl
@[go_sem] theorem fmt7 : FmtStop.printed? ⟨#[60, 37, 118, 58, 37, 118, 62]⟩ 2 = some [(0, 118, false), (1, 118, false)] := by kernel_rfl
@[go_sem] theorem fmt7r (w : World) : (FmtDoors.printed ⟨#[60, 37, 118, 58, 37, 118, 62]⟩ 2).run Tryf.prog w = .ok [(0, 118, false), (1, 118, false)] w := by kernel_rfl
theorem name3 : Tryf.prog.typeName? 3 3 = some "int" := by kernel_rfl
def shape3 : List UInt8 := [5, 3, 0, 0, 0, 0, 0, 0, 0, 105, 110, 116]
@[go_sem] theorem op3_100 (name : String) (x : Int) (w : World) : (FmtStop.operand name false 100 false (.iface 3 (.int .i64 x))).run Tryf.prog w = .ok (shape3, Go.Extern.Stop.digits 8 (x % 2 ^ 64).toNat) w := by kernel_rfl
@[go_sem] theorem op3_115 (name : String) (x : Int) (w : World) : (FmtStop.operand name false 115 false (.iface 3 (.int .i64 x))).run Tryf.prog w = .ok (shape3, Go.Extern.Stop.digits 8 (x % 2 ^ 64).toNat) w := by kernel_rfl
@[go_sem] theorem op3_118 (name : String) (x : Int) (w : World) : (FmtStop.operand name false 118 false (.iface 3 (.int .i64 x))).run Tryf.prog w = .ok (shape3, Go.Extern.Stop.digits 8 (x % 2 ^ 64).toNat) w := by kernel_rfl
theorem name9 : Tryf.prog.typeName? 3 9 = some "string" := by kernel_rfl
def shape9 : List UInt8 := [12, 6, 0, 0, 0, 0, 0, 0, 0, 115, 116, 114, 105, 110, 103]
@[go_sem] theorem op9_115 (name : String) (x : ByteArray) (w : World) : (FmtStop.operand name false 115 false (.iface 9 (.string x))).run Tryf.prog w = .ok (shape9, FmtStop.pack x.data.toList) w := by kernel_rfl
@[go_sem] theorem op9_118 (name : String) (x : ByteArray) (w : World) : (FmtStop.operand name false 118 false (.iface 9 (.string x))).run Tryf.prog w = .ok (shape9, FmtStop.pack x.data.toList) w := by kernel_rfl
end Go.Proofs.YtlpnagpdjkgbcaaFmt
