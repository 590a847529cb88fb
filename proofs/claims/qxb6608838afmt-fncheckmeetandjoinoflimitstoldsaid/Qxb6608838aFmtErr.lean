import Derived.Test.Qxb6608838aFmtRows
import Derived.WalkKit
import Derived.WalkLawsBesides
import Derived.Stop.CallBack
import Derived.Stop.IfaceNil
import GoSem.ClaimData
namespace Go.Proofs.Qxb6608838aFmt.err
open Go.RowKit Go.Extern.Stop Go.Stop Go.Extern

/-! ### the closed facts for the walk over fmt.errorf (a plain stop) -/
@[go_sem] theorem call7 (args : Array Value) (w : World) : (callFunc 7 args).run Tryf.prog w = ((FmtStop.errorf #[9, 30] #[25] args).run Tryf.prog w).andThen fun v w' => .ok (.value v) w' :=
  run_callFunc_extern Tryf.func7 (by kernel_rfl) (by kernel_rfl) (by kernel_rfl) (by kernel_rfl) args w
@[go_sem] theorem guard7 (name : String) (w : World) : (FmtStop.guard name).run Tryf.prog w = .ok () w := by kernel_rfl
-- the format of the first error, one operand
@[go_sem] theorem fmt0 : FmtStop.printed? ⟨#[116, 104, 101, 32, 109, 111, 115, 116, 32, 108, 101, 97, 115, 101, 115, 32, 107, 101, 112, 116, 32, 109, 117, 115, 116, 32, 98, 101, 32, 97, 116, 32, 108, 101, 97, 115, 116, 32, 49, 44, 32, 110, 111, 116, 32, 37, 100]⟩ 1 = some [(0, 100, false)] := by kernel_rfl
@[go_sem] theorem fmt0r (w : World) : (FmtDoors.printed ⟨#[116, 104, 101, 32, 109, 111, 115, 116, 32, 108, 101, 97, 115, 101, 115, 32, 107, 101, 112, 116, 32, 109, 117, 115, 116, 32, 98, 101, 32, 97, 116, 32, 108, 101, 97, 115, 116, 32, 49, 44, 32, 110, 111, 116, 32, 37, 100]⟩ 1).run Tryf.prog w = .ok [(0, 100, false)] w := by kernel_rfl
-- the format of the second error, one operand
@[go_sem] theorem fmt1 : FmtStop.printed? ⟨#[116, 104, 101, 32, 109, 111, 115, 116, 32, 98, 121, 116, 101, 115, 32, 111, 102, 32, 100, 97, 116, 97, 32, 107, 101, 112, 116, 32, 109, 117, 115, 116, 32, 98, 101, 32, 48, 32, 111, 114, 32, 109, 111, 114, 101, 44, 32, 110, 111, 116, 32, 37, 100]⟩ 1 = some [(0, 100, false)] := by kernel_rfl
@[go_sem] theorem fmt1r (w : World) : (FmtDoors.printed ⟨#[116, 104, 101, 32, 109, 111, 115, 116, 32, 98, 121, 116, 101, 115, 32, 111, 102, 32, 100, 97, 116, 97, 32, 107, 101, 112, 116, 32, 109, 117, 115, 116, 32, 98, 101, 32, 48, 32, 111, 114, 32, 109, 111, 114, 101, 44, 32, 110, 111, 116, 32, 37, 100]⟩ 1).run Tryf.prog w = .ok [(0, 100, false)] w := by kernel_rfl
-- the operands' types: 3 (int), 2 (int64)
def shape3 : List UInt8 := [5, 3, 0, 0, 0, 0, 0, 0, 0, 105, 110, 116]
def shape2 : List UInt8 := [5, 5, 0, 0, 0, 0, 0, 0, 0, 105, 110, 116, 54, 52]
@[go_sem] theorem op3 (name : String) (x : Int) (w : World) : (FmtStop.operand name true 100 false (.iface 3 (.int .i64 x))).run Tryf.prog w = .ok (shape3, Go.Extern.Stop.digits 8 (x % 2 ^ 64).toNat) w := by kernel_rfl
@[go_sem] theorem op2 (name : String) (x : Int) (w : World) : (FmtStop.operand name true 100 false (.iface 2 (.int .i64 x))).run Tryf.prog w = .ok (shape2, Go.Extern.Stop.digits 8 (x % 2 ^ 64).toNat) w := by kernel_rfl
-- the error type that it makes
@[go_sem] theorem ptr33 (w : World) : (FmtStop.ptrTo "errors.errorString").run Tryf.prog w = .ok 33 w := by kernel_rfl
@[go_sem] theorem elem33 (w : World) : (elemOf 33).run Tryf.prog w = .ok 35 w := by kernel_rfl


/-! ### Limits.Check: its three ways -/
set_option maxHeartbeats 400000 in
theorem check_ok (a b : Int) (h1 : 1 ≤ a) (h2 : 0 ≤ b) (w : World) :
    Calls Tryf.prog 5 #[.agg #[.int .i64 a, .int .i64 b]] w fun e w' => e = .returned .nilIface ∧ w' = w.alloc (.cells #[.int .i64 a, .int .i64 b] 23) := by
  go_enter Tryf.func5, Tryf.ntmps5
  go_wp2
  go_ret
  exact ⟨rfl, rfl⟩

set_option maxHeartbeats 800000 in
theorem check_err (a b : Int) (h : a < 1 ∨ b < 0) (w : World) :
    Calls Tryf.prog 5 #[.agg #[.int .i64 a, .int .i64 b]] w fun e w' => e = .returned (.iface 33 (.pointer (some ⟨w.heap.size + 2, 0, none⟩))) ∧
      ∃ (c : Value) (t : ByteArray), w' = (((w.alloc (.cells #[.int .i64 a, .int .i64 b] 23)).alloc (.cells #[c] 20)).alloc (.cells #[.string t] 35)).drew := by
  by_cases h1 : a < 1
  · clear h
    go_enter Tryf.func5, Tryf.ntmps5
    go_wp2
    go_ret
    exact ⟨rfl, _, _, rfl⟩
  · have h2 : b < 0 := by omega
    clear h
    go_enter Tryf.func5, Tryf.ntmps5
    go_wp2
    go_ret
    exact ⟨rfl, _, _, rfl⟩

end Go.Proofs.Qxb6608838aFmt.err
