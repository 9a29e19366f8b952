import Derived.Test.Qxb6612610aFmtCards
import Derived.WalkKit
import Derived.WalkSpells
import Derived.Stop.CallBack
import Derived.Stop.IfaceNil
import Derived.RowKit3
namespace Go.Proofs.Qxb6612610aFmt.W
open Go.RowKit Go.Extern.Stop Go.Stop Go.Extern

theorem call8 (args : Array Value) (w : World) : (callFunc 8 args).run Tryf.prog w = ((FmtStop.errorf #[9, 27] #[24] args).run Tryf.prog w).andThen fun v w' => .ok (.value v) w' :=
  run_callFunc_extern Tryf.func8 (by kernel_rfl) (by kernel_rfl) (by kernel_rfl) (by kernel_rfl) args w
theorem guard (name : String) (w : World) : (FmtStop.guard name).run Tryf.prog w = .ok () w := by kernel_rfl
theorem fmt0 : FmtStop.printed? ⟨#[109, 105, 115, 115, 105, 110, 103, 32, 99, 111, 108, 117, 109, 110, 32, 37, 115]⟩ 1 = some [(0, 115, false)] := by kernel_rfl
theorem fmt0r (w : World) : (FmtDoors.printed ⟨#[109, 105, 115, 115, 105, 110, 103, 32, 99, 111, 108, 117, 109, 110, 32, 37, 115]⟩ 1).run Tryf.prog w = .ok [(0, 115, false)] w := by kernel_rfl
def shape9 : List UInt8 := [12, 6, 0, 0, 0, 0, 0, 0, 0, 115, 116, 114, 105, 110, 103]
theorem op9_115 (name : String) (x : ByteArray) (w : World) : (FmtStop.operand name false 115 false (.iface 9 (.string x))).run Tryf.prog w = .ok (shape9, FmtStop.pack x.data.toList) w := by kernel_rfl
theorem op9_115w (name : String) (x : ByteArray) (w : World) : (FmtStop.operand name true 115 false (.iface 9 (.string x))).run Tryf.prog w = .ok (shape9, FmtStop.pack x.data.toList) w := by kernel_rfl
theorem strict9 (name : String) (x : ByteArray) (w : World) : (FmtStop.strict name (.iface 9 (.string x))).run Tryf.prog w = .ok (shape9, FmtStop.pack x.data.toList) w := by kernel_rfl
theorem ptr29 (w : World) : (FmtStop.ptrTo "errors.errorString").run Tryf.prog w = .ok 29 w := by kernel_rfl
theorem elem29 (w : World) : (elemOf 29).run Tryf.prog w = .ok 31 w := by kernel_rfl
theorem isError29 (w : World) : (FmtDoors.textMethod 29 "Error").run Tryf.prog w = .ok true w := by kernel_rfl

theorem missing_any (F : Interp) (s : ByteArray) (hs : s.size ≤ 1048576) (w : World) (hF : F.answers w.tape) :
    Calls Tryf.prog 3 #[.string s] w fun e w' => e = .returned (.bool true) ∧ Grown w w' := by
  have hF' := answers_open hF
  have c1 := call8
  have c2 := guard
  have c3 := fmt0
  have c4 := fmt0r
  have c5 := op9_115
  have c6 := op9_115w
  have c7 := strict9
  have c8 := ptr29
  have c9 := elem29
  have c10 := isError29
  go_enter Tryf.func3, Tryf.ntmps3
  go_wp2
  go_ret
  exact ⟨rfl, by repeat (first | exact Grown.refl _ | apply Grown.drew | apply Grown.alloc)⟩
theorem missing_big (s : ByteArray) (hs : 1048576 < s.size) (w : World) :
    Calls Tryf.prog 3 #[.string s] w fun e w' => e = .returned (.bool true) ∧ Grown w w' := by
  go_enter Tryf.func3, Tryf.ntmps3
  go_wp2
  go_ret
  exact ⟨rfl, by repeat (first | exact Grown.refl _ | apply Grown.drew | apply Grown.alloc)⟩
end Go.Proofs.Qxb6612610aFmt.W
