import Derived.Test.Qxb6612389aFmtRows
import Derived.Stop.CallBack
import Derived.Stop.IfaceNil
import GoSem.ClaimData
import Derived.WalkKit
import Derived.WalkSpells
import Derived.Below
namespace Go.Proofs.Qxb6612389aFmt
open Go.Extern.Stop Go.Stop Go.Extern Go.RowKit

theorem call14 (args : Array Value) (w : World) : (callFunc 14 args).run Tryf.prog w = ((FmtStop.errorf #[9, 58] #[26] args).run Tryf.prog w).andThen fun v w' => .ok (.value v) w' :=
  run_callFunc_extern Tryf.func14 (by kernel_rfl) (by kernel_rfl) (by kernel_rfl) (by kernel_rfl) args w
theorem guard14 (name : String) (w : World) : (FmtStop.guard name).run Tryf.prog w = .ok () w := by kernel_rfl
def theFormat : ByteArray := ⟨#[116, 104, 101, 32, 73, 100, 80, 32, 109, 101, 116, 97, 100, 97, 116, 97, 32, 108, 105, 115, 116, 115, 32, 110, 111, 32, 115, 105, 103, 110, 45, 111, 110, 32, 101, 110, 100, 112, 111, 105, 110, 116, 32, 102, 111, 114, 32, 116, 104, 101, 32, 37, 115, 32, 98, 105, 110, 100, 105, 110, 103, 44, 32, 97, 110, 100, 32, 83, 105, 103, 110, 79, 110, 85, 82, 76, 32, 105, 115, 32, 101, 109, 112, 116, 121]⟩
theorem fmt0 : FmtStop.printed? theFormat 1 = some [(0, 115, false)] := by kernel_rfl
theorem fmt0r (w : World) : (FmtDoors.printed theFormat 1).run Tryf.prog w = .ok [(0, 115, false)] w := by kernel_rfl
def shape9 : List UInt8 := [12, 6, 0, 0, 0, 0, 0, 0, 0, 115, 116, 114, 105, 110, 103]
theorem op9_115w (name : String) (x : ByteArray) (w : World) : (FmtStop.operand name true 115 false (.iface 9 (.string x))).run Tryf.prog w = .ok (shape9, FmtStop.pack x.data.toList) w := by kernel_rfl
theorem op9_115 (name : String) (x : ByteArray) (w : World) : (FmtStop.operand name false 115 false (.iface 9 (.string x))).run Tryf.prog w = .ok (shape9, FmtStop.pack x.data.toList) w := by kernel_rfl
theorem ptr69 (w : World) : (FmtStop.ptrTo "errors.errorString").run Tryf.prog w = .ok 69 w := by kernel_rfl
theorem elem69 (w : World) : (elemOf 69).run Tryf.prog w = .ok 71 w := by kernel_rfl

theorem errorf_any (x : ByteArray) (b : Nat) (w : World) (hc : w.cell? ⟨b, 0, none⟩ = some (.iface 9 (.string x))) :
    Calls Tryf.prog 11 #[.string theFormat, .slice (some ⟨b, 0, none⟩) 1 1] w fun e w' => ∃ a, e = .returned (.iface 69 (.pointer (some a))) ∧ Below w.heap.size w w' := by
  have k1 := call14
  have k2 := guard14
  have k3 := fmt0
  have k4 := fmt0r
  have k5 := op9_115w
  have k6 := op9_115
  have k7 := ptr69
  have k8 := elem69
  go_enter Tryf.func11, Tryf.ntmps11
  go_wp2
  go_ret
  exact ⟨_, rfl, ((Below.refl _ _).alloc (Nat.le_refl _) _).drew⟩
end Go.Proofs.Qxb6612389aFmt
