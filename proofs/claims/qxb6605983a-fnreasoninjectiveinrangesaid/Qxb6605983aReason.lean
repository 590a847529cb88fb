import Derived.Test.Qxb6605983aRows
import Derived.WalkKit
import Derived.WalkLawsBesides
namespace Go.Proofs.Qxb6605983a.reason
open Go.RowKit

set_option maxHeartbeats 400000 in
theorem bytes2_yes (a b : ByteArray) (ha : a.size ≤ maxLen) (hb : b.size ≤ maxLen) (h : a.size + b.size ≤ 1048576) (w : World) :
    Calls Try.prog 12 #[.string a, .string b] w fun e w' => e = .returned (.bool true) ∧ w' = w := by
  unfold maxLen at ha hb
  go_enter Try.func12, Try.ntmps12
  go_wp2
  go_ret
  exact ⟨rfl, rfl⟩

set_option maxHeartbeats 400000 in
theorem bytes2_no (a b : ByteArray) (ha : a.size ≤ maxLen) (hb : b.size ≤ maxLen) (h : 1048576 < a.size + b.size) (w : World) :
    Calls Try.prog 12 #[.string a, .string b] w fun e w' => e = .returned (.bool false) ∧ w' = w := by
  unfold maxLen at ha hb
  by_cases h1 : a.size ≤ 1048576
  · by_cases h2 : b.size ≤ 1048576
    · go_enter Try.func12, Try.ntmps12
      go_wp2
      go_ret
      exact ⟨rfl, rfl⟩
    · go_enter Try.func12, Try.ntmps12
      go_wp2
      go_ret
      exact ⟨rfl, rfl⟩
  · go_enter Try.func12, Try.ntmps12
    go_wp2
    go_ret
    exact ⟨rfl, rfl⟩

set_option maxHeartbeats 400000 in
theorem bytes3_yes (a b c : ByteArray) (ha : a.size ≤ maxLen) (hb : b.size ≤ maxLen) (hc : c.size ≤ maxLen) (h : a.size + b.size + c.size ≤ 1048576) (w : World) :
    Calls Try.prog 15 #[.string a, .string b, .string c] w fun e w' => e = .returned (.bool true) ∧ w' = w := by
  unfold maxLen at ha hb hc
  go_enter Try.func15, Try.ntmps15
  go_wp2
  go_ret
  exact ⟨rfl, rfl⟩

set_option maxHeartbeats 400000 in
theorem bytes3_no (a b c : ByteArray) (ha : a.size ≤ maxLen) (hb : b.size ≤ maxLen) (hc : c.size ≤ maxLen) (h : 1048576 < a.size + b.size + c.size) (w : World) :
    Calls Try.prog 15 #[.string a, .string b, .string c] w fun e w' => e = .returned (.bool false) ∧ w' = w := by
  unfold maxLen at ha hb hc
  go_enter Try.func15, Try.ntmps15
  go_wp2
  all_goals
    go_ret
    exact ⟨rfl, rfl⟩

/-! ### Selection.Reason -/
set_option maxHeartbeats 400000 in
theorem reason_empty (p : Value) (m r : ByteArray) (h : r.toList.isEmpty = true) (w : World) :
    Calls Try.prog 14 #[.agg #[p, .string m, .string r]] w fun e w' => e = .returned (.string m) ∧ w' = w.alloc (.cells #[p, .string m, .string r] 27) := by
  go_enter Try.func14, Try.ntmps14
  go_wp2
  go_ret
  exact ⟨rfl, rfl⟩

set_option maxHeartbeats 400000 in
theorem reason_some (p : Value) (m r : ByteArray) (hm : m.size ≤ 1048576) (hr : r.size ≤ 1048576) (h : r.toList.isEmpty = false) (w : World) :
    Calls Try.prog 14 #[.agg #[p, .string m, .string r]] w fun e w' => e = .returned (.string (m ++ ⟨#[32]⟩ ++ r)) ∧ w' = w.alloc (.cells #[p, .string m, .string r] 27) := by
  go_enter Try.func14, Try.ntmps14
  go_wp2
  go_ret
  exact ⟨rfl, rfl⟩

/-! ### reasonParse -/
set_option maxHeartbeats 400000 in
theorem parse_empty (m : ByteArray) (w : World) :
    Calls Try.prog 13 #[.string m, .string m] w fun e w' => e = .returned (.tuple #[.string ByteArray.empty, .bool true]) ∧ w' = w := by
  go_enter Try.func13, Try.ntmps13
  go_wp2
  go_ret2
  exact ⟨rfl, rfl⟩

set_option maxHeartbeats 400000 in
theorem parse_core (m r R T : ByteArray) (hr : r.size ≤ 1048576) (h0 : 0 < r.size)
    (hs : R.size = m.size + (1 + r.size)) (hx1 : R.extract 0 m.size = m) (hx2 : R.extract m.size (m.size + (1 + r.size)) = T)
    (ht : T.size = 1 + r.size) (he : T.toList.isEmpty = false) (h32 : ∀ h : 0 < T.size, T[0]'h = 32) (hx3 : T.extract 1 (1 + r.size) = r) (w : World) :
    Calls Try.prog 13 #[.string R, .string m] w fun e w' => e = .returned (.tuple #[.string r, .bool true]) ∧ w' = w := by
  go_enter Try.func13, Try.ntmps13
  go_wp2
  go_ret2
  exact ⟨rfl, rfl⟩

theorem ext_head (m t : ByteArray) : (m ++ t).extract 0 m.size = m := by
  rw [ByteArray.extract_append]; simp
theorem ext_tail (m t : ByteArray) : (m ++ t).extract m.size (m.size + t.size) = t := by
  rw [ByteArray.extract_append]
  ext1
  simp

theorem empty_iff (r : ByteArray) : r.toList.isEmpty = true ↔ r = ByteArray.empty := by
  rw [ByteArray.toList_eq]
  constructor
  · intro h
    ext1
    simpa using h
  · rintro rfl; rfl

theorem nonempty_size (r : ByteArray) : r.toList.isEmpty = false ↔ 0 < r.size := by
  rw [ByteArray.toList_eq]
  have : r.size = r.data.toList.length := by simp
  rw [this]
  cases r.data.toList <;> simp

theorem parse_some (m r : ByteArray) (hr : r.size ≤ 1048576) (h0 : 0 < r.size) (w : World) :
    Calls Try.prog 13 #[.string (m ++ ⟨#[32]⟩ ++ r), .string m] w fun e w' => e = .returned (.tuple #[.string r, .bool true]) ∧ w' = w := by
  have hsz : (ByteArray.mk #[32] ++ r).size = 1 + r.size := by simp; rfl
  refine parse_core m r _ (⟨#[32]⟩ ++ r) hr h0 ?_ ?_ ?_ hsz ?_ ?_ ?_ w
  · simp [Nat.add_assoc]; rfl
  · rw [ByteArray.append_assoc]; exact ext_head _ _
  · rw [ByteArray.append_assoc, ← hsz]; exact ext_tail _ _
  · rw [nonempty_size, hsz]; omega
  · intro h
    rw [ByteArray.getElem_append_left (by decide)]
    rfl
  · exact ext_tail ⟨#[32]⟩ r

theorem eq_of (m r s : ByteArray) : ((m ++ ⟨#[32]⟩ ++ r).toList == (m ++ ⟨#[32]⟩ ++ s).toList) = (r.toList == s.toList) := by
  rw [Bool.eq_iff_iff]
  simp [ByteArray.toList_eq]

theorem ne_of (m r : ByteArray) (h : 0 < r.size) : ((m ++ ⟨#[32]⟩ ++ r).toList == m.toList) = false ∧ (m.toList == (m ++ ⟨#[32]⟩ ++ r).toList) = false
    ∧ (r.toList == ByteArray.empty.toList) = false ∧ (ByteArray.empty.toList == r.toList) = false := by
  have hne : m ++ ⟨#[32]⟩ ++ r ≠ m := by
    intro e
    have := congrArg ByteArray.size e
    simp at this
    omega
  have hr : r ≠ ByteArray.empty := by
    rintro rfl
    simp at h
  have t : ∀ a b : ByteArray, a ≠ b → (a.toList == b.toList) = false := by
    intro a b hab
    rw [ByteArray.toList_eq, ByteArray.toList_eq, beq_eq_false_iff_ne]
    intro e
    exact hab (ByteArray.ext (Array.ext' e))
  exact ⟨t _ _ hne, t _ _ (Ne.symm hne), t _ _ hr, t _ _ (Ne.symm hr)⟩

theorem size_some (m r : ByteArray) : (m ++ ⟨#[32]⟩ ++ r).size = m.size + (1 + r.size) := by
  simp [Nat.add_assoc]; rfl

end Go.Proofs.Qxb6605983a.reason
