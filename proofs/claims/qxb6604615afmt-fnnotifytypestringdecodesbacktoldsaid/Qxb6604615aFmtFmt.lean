/-
  THE CLOSED FACTS FOR A WALK OVER fmt's STOPPED FRONT fmt.Sprintf (function 11), at this program's two formats; after the kit's worked families.
-/
import Derived.Test.Qxb6604615aFmtProg
import Derived.Stop.CallBack
import Derived.Stop.IfaceNil
import GoSem.ClaimData
namespace Go.Proofs.Qxb6604615aFmt
open Go.Extern.Stop Go.Stop Go.Extern

theorem call11 (args : Array Value) (w : World) : (callFunc 11 args).run Tryf.prog w = ((FmtStop.sprintf #[9, 62] #[9] args).run Tryf.prog w).andThen fun v w' => .ok (.value v) w' :=
  run_callFunc_extern Tryf.func11 (by kernel_rfl) (by kernel_rfl) (by kernel_rfl) (by kernel_rfl) args w
theorem guardOk (name : String) (w : World) : (FmtStop.guard name).run Tryf.prog w = .ok () w := by kernel_rfl
-- sixteen hexadecimal digits, one operand
theorem fmtHex : FmtStop.printed? ⟨#[37, 48, 49, 54, 120]⟩ 1 = some [(0, 120, false)] := by kernel_rfl
theorem fmtHexR (w : World) : (FmtDoors.printed ⟨#[37, 48, 49, 54, 120]⟩ 1).run Tryf.prog w = .ok [(0, 120, false)] w := by kernel_rfl
-- the number in brackets behind the name of its type, one operand
theorem fmtDec : FmtStop.printed? ⟨#[110, 111, 116, 105, 102, 121, 84, 121, 112, 101, 40, 37, 100, 41]⟩ 1 = some [(0, 100, false)] := by kernel_rfl
theorem fmtDecR (w : World) : (FmtDoors.printed ⟨#[110, 111, 116, 105, 102, 121, 84, 121, 112, 101, 40, 37, 100, 41]⟩ 1).run Tryf.prog w = .ok [(0, 100, false)] w := by kernel_rfl
-- type 22: uint64
def shape22 : List UInt8 := [9, 6, 0, 0, 0, 0, 0, 0, 0, 117, 105, 110, 116, 54, 52]
theorem op22 (name : String) (x : Int) (w : World) : (FmtStop.operand name false 120 false (.iface 22 (.int .u64 x))).run Tryf.prog w = .ok (shape22, Go.Extern.Stop.digits 8 (x % 2 ^ 64).toNat) w := by kernel_rfl
-- type 30: uint16
def shape30 : List UInt8 := [7, 6, 0, 0, 0, 0, 0, 0, 0, 117, 105, 110, 116, 49, 54]
theorem op30 (name : String) (x : Int) (w : World) : (FmtStop.operand name false 100 false (.iface 30 (.int .u16 x))).run Tryf.prog w = .ok (shape30, Go.Extern.Stop.digits 8 (x % 2 ^ 64).toNat) w := by kernel_rfl
end Go.Proofs.Qxb6604615aFmt
