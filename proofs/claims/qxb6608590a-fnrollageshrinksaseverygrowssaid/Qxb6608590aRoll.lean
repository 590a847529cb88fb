import Derived.Test.Qxb6608590aRows
import Derived.WalkKit
import Derived.WalkLawsBesides
namespace Go.Proofs.Qxb6608590a.roll
open Go.RowKit

/-! ### store.ZZb1RollAge: its three ways -/
set_option maxHeartbeats 400000 in
theorem roll_none (b r age ev : Int) (h : age ≤ 0) (w : World) :
    Calls Try.prog 5 #[.int .i64 b, .int .i64 r, .int .i64 age, .int .i64 ev] w fun e w' => e = .returned (.int .i64 0) ∧ w' = w.alloc (.cells #[.int .i64 b, .int .i64 r, .int .i64 age] 26) := by
  go_enter Try.func5, Try.ntmps5
  go_wp2
  go_ret
  exact ⟨rfl, rfl⟩

set_option maxHeartbeats 400000 in
theorem roll_one (b r age ev : Int) (h : 0 < age) (hu : age ≤ 9223372036854775807) (h0 : 0 ≤ ev) (h1 : ev < 4611686018427387904) (hc : age - 2 * ev < 1) (w : World) :
    Calls Try.prog 5 #[.int .i64 b, .int .i64 r, .int .i64 age, .int .i64 ev] w fun e w' => e = .returned (.int .i64 1) ∧ w' = w.alloc (.cells #[.int .i64 b, .int .i64 r, .int .i64 age] 26) := by
  go_enter Try.func5, Try.ntmps5
  go_wp2
  go_ret
  exact ⟨rfl, rfl⟩

set_option maxHeartbeats 400000 in
theorem roll_big (b r age ev : Int) (h : 0 < age) (hu : age ≤ 9223372036854775807) (h0 : 0 ≤ ev) (h1 : ev < 4611686018427387904) (hc : 1 ≤ age - 2 * ev) (w : World) :
    Calls Try.prog 5 #[.int .i64 b, .int .i64 r, .int .i64 age, .int .i64 ev] w fun e w' => e = .returned (.int .i64 (age - 2 * ev)) ∧ w' = w.alloc (.cells #[.int .i64 b, .int .i64 r, .int .i64 age] 26) := by
  go_enter Try.func5, Try.ntmps5
  go_wp2
  go_ret
  exact ⟨rfl, rfl⟩

/-! ### the law FnRollAgeLeastToCoverAge, behind its guards -/
set_option maxHeartbeats 1000000 in
theorem least_one (b r age ev sh : Int) (h : 0 < age) (hu : age + 2 * sh ≤ 9223372036854775807) (h0 : 0 ≤ ev) (h1 : ev < 2305843009213693952) (s0 : 0 ≤ sh) (s1 : sh < 2305843009213693952) (hc : age - 2 * ev < 1) (w : World) :
    Calls Try.prog 3 #[.int .i64 b, .int .i64 r, .int .i64 age, .int .i64 ev, .int .i64 sh] w fun e w' => e = .returned (.bool true) ∧ Grown w w' := by
  go_enter Try.func3, Try.ntmps3
  go_wp2_with fail
  refine (roll_one b r age ev h (by omega) h0 (by omega) hc _).mono ?_
  rintro e w' ⟨rfl, rfl⟩
  go_wp2_with fail
  refine (roll_one 0 0 (age + 2 * sh) (ev + sh) (by omega) (by omega) (by omega) (by omega) (by omega) _).mono ?_
  rintro e w' ⟨rfl, rfl⟩
  go_wp2
  go_ret
  exact ⟨rfl, by repeat (first | exact Grown.refl _ | apply Grown.drew | apply Grown.alloc)⟩

set_option maxHeartbeats 1000000 in
theorem least_big (b r age ev sh : Int) (h : 0 < age) (hu : age + 2 * sh ≤ 9223372036854775807) (h0 : 0 ≤ ev) (h1 : ev < 2305843009213693952) (s0 : 0 ≤ sh) (s1 : sh < 2305843009213693952) (hc : 1 ≤ age - 2 * ev) (w : World) :
    Calls Try.prog 3 #[.int .i64 b, .int .i64 r, .int .i64 age, .int .i64 ev, .int .i64 sh] w fun e w' => e = .returned (.bool true) ∧ Grown w w' := by
  have hq : (age + 2 * sh - 2 * (ev + sh) == age - 2 * ev) = true := by simp; omega
  go_enter Try.func3, Try.ntmps3
  go_wp2_with fail
  refine (roll_big b r age ev h (by omega) h0 (by omega) (by omega) _).mono ?_
  rintro e w' ⟨rfl, rfl⟩
  go_wp2_with fail
  refine (roll_big 0 0 (age + 2 * sh) (ev + sh) (by omega) (by omega) (by omega) (by omega) (by omega) _).mono ?_
  rintro e w' ⟨rfl, rfl⟩
  go_wp2
  all_goals
    go_ret
    exact ⟨rfl, by repeat (first | exact Grown.refl _ | apply Grown.drew | apply Grown.alloc)⟩

/-! ### the law FnRollAgeShrinksAsEveryGrows, behind its guard -/
theorem roll_val (b r age ev v : Int) (h : 0 < age) (hu : age ≤ 9223372036854775807) (h0 : 0 ≤ ev) (h1 : ev < 4611686018427387904) (hv : age - 2 * ev < 1 ∧ v = 1 ∨ 1 ≤ age - 2 * ev ∧ v = age - 2 * ev) (w : World) :
    Calls Try.prog 5 #[.int .i64 b, .int .i64 r, .int .i64 age, .int .i64 ev] w fun e w' => e = .returned (.int .i64 v) ∧ w' = w.alloc (.cells #[.int .i64 b, .int .i64 r, .int .i64 age] 26) := by
  rcases hv with ⟨hc, rfl⟩ | ⟨hc, rfl⟩
  · exact roll_one b r age ev h hu h0 h1 hc w
  · exact roll_big b r age ev h hu h0 h1 hc w

theorem ex_val (age ev : Int) : ∃ v : Int, age - 2 * ev < 1 ∧ v = 1 ∨ 1 ≤ age - 2 * ev ∧ v = age - 2 * ev := by
  by_cases h : age - 2 * ev < 1
  · exact ⟨1, .inl ⟨h, rfl⟩⟩
  · exact ⟨_, .inr ⟨by omega, rfl⟩⟩

set_option maxHeartbeats 1000000 in
theorem shrinks_none (b r age e1 e2 : Int) (h : age ≤ 0) (w : World) :
    Calls Try.prog 4 #[.int .i64 b, .int .i64 r, .int .i64 age, .int .i64 e1, .int .i64 e2] w fun e w' => e = .returned (.bool true) ∧ Grown w w' := by
  go_enter Try.func4, Try.ntmps4
  go_wp2_with (go_at_call 5; refine (roll_none _ _ _ _ h _).mono ?_; rintro e w' ⟨rfl, rfl⟩)
  go_ret
  exact ⟨rfl, by repeat (first | exact Grown.refl _ | apply Grown.drew | apply Grown.alloc)⟩

set_option maxHeartbeats 1000000 in
theorem shrinks_some (b r age e1 e2 : Int) (h : 0 < age) (hu : age ≤ 9223372036854775807) (h0 : 0 ≤ e1) (h1 : e1 < 2305843009213693952) (s0 : 0 ≤ e2) (s1 : e2 < 2305843009213693952) (w : World) :
    Calls Try.prog 4 #[.int .i64 b, .int .i64 r, .int .i64 age, .int .i64 e1, .int .i64 e2] w fun e w' => e = .returned (.bool true) ∧ Grown w w' := by
  obtain ⟨v1, hv1⟩ := ex_val age e1
  obtain ⟨v2, hv2⟩ := ex_val age e2
  have a1 : 1 ≤ v1 := by omega
  have a2 : v1 ≤ age := by omega
  have b1 : 1 ≤ v2 := by omega
  have b2 : v2 ≤ age := by omega
  by_cases hle : e1 ≤ e2
  · have c1 : v2 ≤ v1 := by omega
    have c2 : v1 - v2 ≤ 2 * (e2 - e1) := by omega
    have H1 : Hid _ := hv1
    have H2 : Hid _ := hv2
    clear hv1 hv2
    go_enter Try.func4, Try.ntmps4
    go_wp2_with fail
    refine (roll_val b r age e1 v1 h hu h0 (by omega) H1.out _).mono ?_
    rintro e w' ⟨rfl, rfl⟩
    go_wp2_with fail
    refine (roll_val b r age e2 v2 h hu s0 (by omega) H2.out _).mono ?_
    rintro e w' ⟨rfl, rfl⟩
    go_wp2_with fail
    refine (roll_val b r age 0 age h hu (by omega) (by omega) (by omega) _).mono ?_
    rintro e w' ⟨rfl, rfl⟩
    go_wp2
    go_ret
    exact ⟨rfl, by repeat (first | exact Grown.refl _ | apply Grown.drew | apply Grown.alloc)⟩
  · have c1 : v1 ≤ v2 := by omega
    have c2 : v2 - v1 ≤ 2 * (e1 - e2) := by omega
    have H1 : Hid _ := hv1
    have H2 : Hid _ := hv2
    clear hv1 hv2
    go_enter Try.func4, Try.ntmps4
    go_wp2_with fail
    refine (roll_val b r age e1 v1 h hu h0 (by omega) H1.out _).mono ?_
    rintro e w' ⟨rfl, rfl⟩
    go_wp2_with fail
    refine (roll_val b r age e2 v2 h hu s0 (by omega) H2.out _).mono ?_
    rintro e w' ⟨rfl, rfl⟩
    go_wp2_with fail
    refine (roll_val b r age 0 age h hu (by omega) (by omega) (by omega) _).mono ?_
    rintro e w' ⟨rfl, rfl⟩
    go_wp2
    go_ret
    exact ⟨rfl, by repeat (first | exact Grown.refl _ | apply Grown.drew | apply Grown.alloc)⟩
end Go.Proofs.Qxb6608590a.roll
