/-
  errors.New and fmt.Errorf as newEnv calls them.
-/
import Derived.Test.Qxb6605783aFmtUse
import Derived.Stop.CallBack
import Derived.Stop.IfaceNil
namespace Go.Proofs.Qxb6605783aFmt.Env
open Go.ChangeShapes Go.WideShapes Go.ChangeAt Go.RowKit
open Go.Extern.Stop Go.Stop Go.Extern
set_option linter.unusedVariables false

@[go_sem] theorem call24 (args : Array Value) (w : World) : (callFunc 24 args).run Tryf.prog w = ((FmtStop.errorf #[9, 51] #[28] args).run Tryf.prog w).andThen fun v w' => .ok (.value v) w' :=
  run_callFunc_extern Tryf.func24 (by kernel_rfl) (by kernel_rfl) (by kernel_rfl) (by kernel_rfl) args w
@[go_sem] theorem fguard (name : String) (w : World) : (FmtStop.guard name).run Tryf.prog w = .ok () w := by kernel_rfl
@[go_sem] theorem fmt0 : FmtStop.printed? ⟨#[99, 111, 109, 112, 108, 105, 97, 110, 99, 101, 32, 118, 97, 108, 117, 101, 32, 37, 113, 32, 103, 105, 118, 101, 110, 32, 116, 119, 105, 99, 101]⟩ 1 = some [(0, 113, false)] := by kernel_rfl
@[go_sem] theorem fmt0r (w : World) : (FmtDoors.printed ⟨#[99, 111, 109, 112, 108, 105, 97, 110, 99, 101, 32, 118, 97, 108, 117, 101, 32, 37, 113, 32, 103, 105, 118, 101, 110, 32, 116, 119, 105, 99, 101]⟩ 1).run Tryf.prog w = .ok [(0, 113, false)] w := by kernel_rfl
def shape9 : List UInt8 := [12, 6, 0, 0, 0, 0, 0, 0, 0, 115, 116, 114, 105, 110, 103]
@[go_sem] theorem op9 (name : String) (x : ByteArray) (w : World) : (FmtStop.operand name false 113 false (.iface 9 (.string x))).run Tryf.prog w = .ok (shape9, FmtStop.pack x.data.toList) w := by kernel_rfl
@[go_sem] theorem op9w (name : String) (x : ByteArray) (w : World) : (FmtStop.operand name true 113 false (.iface 9 (.string x))).run Tryf.prog w = .ok (shape9, FmtStop.pack x.data.toList) w := by kernel_rfl
@[go_sem] theorem ptr45 (w : World) : (FmtStop.ptrTo "errors.errorString").run Tryf.prog w = .ok 45 w := by kernel_rfl
@[go_sem] theorem elem45 (w : World) : (elemOf 45).run Tryf.prog w = .ok 47 w := by kernel_rfl

/-- What fmt is asked. -/
def dupAsk (s : ByteArray) : List (List UInt8) := [[99, 111, 109, 112, 108, 105, 97, 110, 99, 101, 32, 118, 97, 108, 117, 101, 32, 37, 113, 32, 103, 105, 118, 101, 110, 32, 116, 119, 105, 99, 101], shape9, FmtStop.pack s.data.toList]

set_option maxHeartbeats 400000 in
theorem errorf_dup (F : Interp) (s : ByteArray) (blk : Nat) (w : World) (hF : F.answers w.tape) (hc0 : w.cell? ⟨blk, 0, none⟩ = some (.iface 9 (.string s))) :
    Calls Tryf.prog 18 #[.string ⟨#[99, 111, 109, 112, 108, 105, 97, 110, 99, 101, 32, 118, 97, 108, 117, 101, 32, 37, 113, 32, 103, 105, 118, 101, 110, 32, 116, 119, 105, 99, 101]⟩, .slice (some ⟨blk, 0, none⟩) 1 1] w fun e w' =>
      e = .returned (.iface 45 (.pointer (some ⟨w.heap.size, 0, none⟩))) ∧ w' = (w.alloc (.cells #[.string (FmtStop.textOf (F "fmt.errorf" (dupAsk s) 0))] 47)).drew := by
  have hF' := answers_open hF
  go_enter Tryf.func18, Tryf.ntmps18
  go_wp2
  go_ret
  exact ⟨rfl, rfl⟩

set_option maxHeartbeats 400000 in
theorem errnew (s : ByteArray) (w : World) :
    Calls Tryf.prog 16 #[.string s] w fun e w' => e = .returned (.iface 45 (.pointer (some ⟨w.heap.size, 0, none⟩))) ∧ w' = w.alloc (.cells #[.string s] 47) := by
  go_enter Tryf.func16, Tryf.ntmps16
  go_wp2
  go_ret
  exact ⟨rfl, rfl⟩

end Go.Proofs.Qxb6605783aFmt.Env
