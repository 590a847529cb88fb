import Derived.Test.Qxb6608905aSpan2
namespace Go.Proofs.Qxb6608905a.span
open Go.RowKit

/-! ### the bound on total length -/
set_option maxHeartbeats 400000 in
theorem bytes4_yes (a b : ByteArray) (d : Int) (c x : ByteArray) (h : a.size + b.size + c.size + x.size ≤ 1048576) (w : World) :
    Calls Try.prog 5 #[.string a, .string b, .int .i64 d, .string c, .string x] w fun e w' => e = .returned (.bool true) ∧ w' = w := by
  go_enter Try.func5, Try.ntmps5
  go_wp2
  go_ret
  exact ⟨rfl, rfl⟩

set_option maxHeartbeats 800000 in
theorem bytes4_no (a b : ByteArray) (d : Int) (c x : ByteArray) (ha : a.size ≤ maxLen) (hb : b.size ≤ maxLen) (hc : c.size ≤ maxLen) (hx : x.size ≤ maxLen) (h : 1048576 < a.size + b.size + c.size + x.size) (w : World) :
    Calls Try.prog 5 #[.string a, .string b, .int .i64 d, .string c, .string x] w fun e w' => e = .returned (.bool false) ∧ w' = w := by
  unfold maxLen at ha hb hc hx
  go_enter Try.func5, Try.ntmps5
  go_wp2
  all_goals
    go_ret
    exact ⟨rfl, rfl⟩

set_option maxHeartbeats 400000 in
theorem bytes5_yes (a b : ByteArray) (d : Int) (c e x : ByteArray) (h : a.size + b.size + c.size + e.size + x.size ≤ 1048576) (w : World) :
    Calls Try.prog 11 #[.string a, .string b, .int .i64 d, .string c, .string e, .string x] w fun e w' => e = .returned (.bool true) ∧ w' = w := by
  go_enter Try.func11, Try.ntmps11
  go_wp2
  go_ret
  exact ⟨rfl, rfl⟩

set_option maxHeartbeats 800000 in
theorem bytes5_no (a b : ByteArray) (d : Int) (c e x : ByteArray) (ha : a.size ≤ maxLen) (hb : b.size ≤ maxLen) (hc : c.size ≤ maxLen) (he : e.size ≤ maxLen) (hx : x.size ≤ maxLen) (h : 1048576 < a.size + b.size + c.size + e.size + x.size) (w : World) :
    Calls Try.prog 11 #[.string a, .string b, .int .i64 d, .string c, .string e, .string x] w fun e w' => e = .returned (.bool false) ∧ w' = w := by
  unfold maxLen at ha hb hc he hx
  go_enter Try.func11, Try.ntmps11
  go_wp2
  all_goals
    go_ret
    exact ⟨rfl, rfl⟩

end Go.Proofs.Qxb6608905a.span
