import Derived.Test.Qxb6608838aFmtErr
namespace Go.Proofs.Qxb6608838aFmt.fnCheckJudgesEachFieldAlone
open Go.RowKit Go.Extern.Stop Go.Stop Go.Extern

set_option maxHeartbeats 1000000 in
theorem walk (a0 a1 : Int) (w : World) :
    Calls Tryf.prog 3 #[.int .i64 a0, .int .i64 a1] w fun e w' => e = .returned (.bool true) ∧ Grown w w' := by
  by_cases h0 : 1 ≤ a0
  · by_cases h1 : 0 ≤ a1
    · go_enter Tryf.func3, Tryf.ntmps3
      go_wp2_with fail
      refine (err.check_ok _ _ (by omega) (by omega) _).mono ?_
      rintro e w' ⟨rfl, rfl⟩
      go_wp2_with fail
      refine (err.check_ok _ _ (by omega) (by omega) _).mono ?_
      rintro e w' ⟨rfl, rfl⟩
      go_wp2_with fail
      refine (err.check_ok _ _ (by omega) (by omega) _).mono ?_
      rintro e w' ⟨rfl, rfl⟩
      go_wp2
      go_ret
      exact ⟨rfl, by repeat (first | exact Grown.refl _ | apply Grown.drew | apply Grown.alloc)⟩
    · have d1 : decide (0 ≤ a1) = false := by simpa using h1
      go_enter Tryf.func3, Tryf.ntmps3
      go_wp2_with fail
      refine (err.check_err _ _ (by omega) _).mono ?_
      rintro e w' ⟨rfl, c0, t0, rfl⟩
      go_wp2_with fail
      refine (err.check_ok _ _ (by omega) (by omega) _).mono ?_
      rintro e w' ⟨rfl, rfl⟩
      go_wp2_with fail
      refine (err.check_err _ _ (by omega) _).mono ?_
      rintro e w' ⟨rfl, c2, t2, rfl⟩
      go_wp2
      go_ret
      exact ⟨rfl, by repeat (first | exact Grown.refl _ | apply Grown.drew | apply Grown.alloc)⟩
  · by_cases h1 : 0 ≤ a1
    · have d0 : decide (1 ≤ a0) = false := by simpa using h0
      go_enter Tryf.func3, Tryf.ntmps3
      go_wp2_with fail
      refine (err.check_err _ _ (by omega) _).mono ?_
      rintro e w' ⟨rfl, c0, t0, rfl⟩
      go_wp2_with fail
      refine (err.check_err _ _ (by omega) _).mono ?_
      rintro e w' ⟨rfl, c1, t1, rfl⟩
      go_wp2_with fail
      refine (err.check_ok _ _ (by omega) (by omega) _).mono ?_
      rintro e w' ⟨rfl, rfl⟩
      go_wp2
      go_ret
      exact ⟨rfl, by repeat (first | exact Grown.refl _ | apply Grown.drew | apply Grown.alloc)⟩
    · have d0 : decide (1 ≤ a0) = false := by simpa using h0
      have d1 : decide (0 ≤ a1) = false := by simpa using h1
      go_enter Tryf.func3, Tryf.ntmps3
      go_wp2_with fail
      refine (err.check_err _ _ (by omega) _).mono ?_
      rintro e w' ⟨rfl, c0, t0, rfl⟩
      go_wp2_with fail
      refine (err.check_err _ _ (by omega) _).mono ?_
      rintro e w' ⟨rfl, c1, t1, rfl⟩
      go_wp2_with fail
      refine (err.check_err _ _ (by omega) _).mono ?_
      rintro e w' ⟨rfl, c2, t2, rfl⟩
      go_wp2
      go_ret
      exact ⟨rfl, by repeat (first | exact Grown.refl _ | apply Grown.drew | apply Grown.alloc)⟩

end Go.Proofs.Qxb6608838aFmt.fnCheckJudgesEachFieldAlone
