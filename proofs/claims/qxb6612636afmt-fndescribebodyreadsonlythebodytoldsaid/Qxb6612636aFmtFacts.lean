import Derived.Test.Qxb6612636aFmtCards
import Derived.Stop.CallBack
import Derived.Stop.IfaceNil
import GoSem.ClaimData
namespace Go.Proofs
open Go.Extern.Stop Go.Stop Go.Extern

-- fmt.Sprintf: function 7: a plain stop
@[go_sem] theorem Tryf.call7 (args : Array Value) (w : World) : (callFunc 7 args).run Tryf.prog w = ((FmtStop.sprintf #[9, 59] #[9] args).run Tryf.prog w).andThen fun v w' => .ok (.value v) w' :=
  run_callFunc_extern Tryf.func7 (by kernel_rfl) (by kernel_rfl) (by kernel_rfl) (by kernel_rfl) args w

@[go_sem] theorem Tryf.guard (name : String) (w : World) : (FmtStop.guard name).run Tryf.prog w = .ok () w := by kernel_rfl

-- the format, 1 operand
@[go_sem] theorem Tryf.fmt2 : FmtStop.printed? ⟨#[115, 101, 116, 115, 32, 72, 84, 84, 80, 32, 98, 111, 100, 121, 32, 37, 113]⟩ 1 = some [(0, 113, false)] := by kernel_rfl
@[go_sem] theorem Tryf.fmt2r (w : World) : (FmtDoors.printed ⟨#[115, 101, 116, 115, 32, 72, 84, 84, 80, 32, 98, 111, 100, 121, 32, 37, 113]⟩ 1).run Tryf.prog w = .ok [(0, 113, false)] w := by kernel_rfl

-- type 9: string
theorem Tryf.name9 : Tryf.prog.typeName? 3 9 = some "string" := by kernel_rfl
def Tryf.shape9 : List UInt8 := [12, 6, 0, 0, 0, 0, 0, 0, 0, 115, 116, 114, 105, 110, 103]
@[go_sem] theorem Tryf.op9_113 (name : String) (x : ByteArray) (w : World) : (FmtStop.operand name false 113 false (.iface 9 (.string x))).run Tryf.prog w = .ok (Tryf.shape9, FmtStop.pack x.data.toList) w := by kernel_rfl
end Go.Proofs
