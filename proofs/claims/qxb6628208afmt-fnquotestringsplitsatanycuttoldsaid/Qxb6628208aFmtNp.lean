import Derived.Test.Qxb6628208aFmtProg
import Derived.Stop.CallBack
import Derived.Stop.IfaceNil
import GoSem.ClaimData
import Derived.WalkKit
import Derived.WalkSpells
namespace Go.Proofs.Qxb6628208aFmt
open Go.RowKit Go.Extern.Stop Go.Stop Go.Extern

/-! ### The closed facts on fmt's stop at this dump (each by the kernel) -/
theorem call21 (args : Array Value) (w : World) : (callFunc 21 args).run Tryf.prog w = ((FmtStop.errorf #[9, 45] #[24] args).run Tryf.prog w).andThen fun v w' => .ok (.value v) w' :=
  run_callFunc_extern Tryf.func21 (by kernel_rfl) (by kernel_rfl) (by kernel_rfl) (by kernel_rfl) args w
theorem guard1 (name : String) (w : World) : (FmtStop.guard name).run Tryf.prog w = .ok () w := by kernel_rfl
theorem fmt0 : FmtStop.printed? ⟨#[98, 121, 116, 101, 32, 37, 35, 120, 32, 97, 116, 32, 111, 102, 102, 115, 101, 116, 32, 37, 100, 32, 99, 97, 110, 110, 111, 116, 32, 115, 116, 97, 110, 100, 32, 105, 110, 32, 97, 32, 115, 116, 114, 117, 99, 116, 117, 114, 101, 100, 32, 102, 105, 101, 108, 100, 32, 115, 116, 114, 105, 110, 103]⟩ 2 = some [(0, 120, true), (1, 100, false)] := by kernel_rfl
theorem fmt0r (w : World) : (FmtDoors.printed ⟨#[98, 121, 116, 101, 32, 37, 35, 120, 32, 97, 116, 32, 111, 102, 102, 115, 101, 116, 32, 37, 100, 32, 99, 97, 110, 110, 111, 116, 32, 115, 116, 97, 110, 100, 32, 105, 110, 32, 97, 32, 115, 116, 114, 117, 99, 116, 117, 114, 101, 100, 32, 102, 105, 101, 108, 100, 32, 115, 116, 114, 105, 110, 103]⟩ 2).run Tryf.prog w = .ok [(0, 120, true), (1, 100, false)] w := by kernel_rfl
def shape5 : List UInt8 := [6, 5, 0, 0, 0, 0, 0, 0, 0, 117, 105, 110, 116, 56]
def shape3 : List UInt8 := [5, 3, 0, 0, 0, 0, 0, 0, 0, 105, 110, 116]
theorem op5_120w (name : String) (x : Int) (w : World) : (FmtStop.operand name true 120 true (.iface 5 (.int .u8 x))).run Tryf.prog w = .ok (shape5, Go.Extern.Stop.digits 8 (x % 2 ^ 64).toNat) w := by kernel_rfl
theorem op5_120 (name : String) (x : Int) (w : World) : (FmtStop.operand name false 120 true (.iface 5 (.int .u8 x))).run Tryf.prog w = .ok (shape5, Go.Extern.Stop.digits 8 (x % 2 ^ 64).toNat) w := by kernel_rfl
theorem op3_100w (name : String) (x : Int) (w : World) : (FmtStop.operand name true 100 false (.iface 3 (.int .i64 x))).run Tryf.prog w = .ok (shape3, Go.Extern.Stop.digits 8 (x % 2 ^ 64).toNat) w := by kernel_rfl
theorem op3_100 (name : String) (x : Int) (w : World) : (FmtStop.operand name false 100 false (.iface 3 (.int .i64 x))).run Tryf.prog w = .ok (shape3, Go.Extern.Stop.digits 8 (x % 2 ^ 64).toNat) w := by kernel_rfl
theorem ptr48 (w : World) : (FmtStop.ptrTo "errors.errorString").run Tryf.prog w = .ok 48 w := by kernel_rfl
theorem elem48 (w : World) : (elemOf 48).run Tryf.prog w = .ok 50 w := by kernel_rfl
theorem isError48 (w : World) : (FmtDoors.textMethod 48 "Error").run Tryf.prog w = .ok true w := by kernel_rfl

attribute [local go_sem] call21 guard1 fmt0 fmt0r op5_120w op5_120 op3_100w op3_100 ptr48 elem48 isError48

theorem notPrintable_any (F : Interp) (c i : Int) (w : World) (hF : F.answers w.tape) :
    Calls Tryf.prog 13 #[.int .u8 c, .int .i64 i] w fun e w' => ∃ a, e = .returned (.iface 48 (.pointer (some a))) ∧ Below w.heap.size w w' := by
  have hF' := answers_open hF
  go_enter Tryf.func13, Tryf.ntmps13
  go_wp2
  go_ret
  exact ⟨_, rfl, (((Below.refl _ _).alloc (Nat.le_refl _) _).alloc (by simp) _).drew⟩

end Go.Proofs.Qxb6628208aFmt
