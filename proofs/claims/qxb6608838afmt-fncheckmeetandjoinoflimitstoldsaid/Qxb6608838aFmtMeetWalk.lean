import Derived.Test.Qxb6608838aFmtMeetWalkG
import Derived.Test.Qxb6608838aFmtMeetWalkL
import Derived.Test.Qxb6608838aFmtMeetWalkE
namespace Go.Proofs.Qxb6608838aFmt.fnCheckMeetAndJoinOfLimits
open Go.RowKit Go.Extern.Stop Go.Stop Go.Extern

theorem walk (a0 a1 a2 a3 : Int) (w : World) :
    Calls Tryf.prog 4 #[.int .i64 a0, .int .i64 a1, .int .i64 a2, .int .i64 a3] w fun e w' => e = .returned (.bool true) ∧ Grown w w' := by
  rcases Int.lt_trichotomy a2 a0 with x0 | rfl | x0
  · rcases Int.lt_trichotomy a3 a1 with x1 | rfl | x1
    · exact walk_gg a0 a1 a2 a3 x0 x1 w
    · exact walk_ge a0 _ a2 x0 w
    · exact walk_gl a0 a1 a2 a3 x0 x1 w
  · rcases Int.lt_trichotomy a3 a1 with x1 | rfl | x1
    · exact walk_eg _ a1 a3 x1 w
    · exact walk_ee _ _ w
    · exact walk_el _ a1 a3 x1 w
  · rcases Int.lt_trichotomy a3 a1 with x1 | rfl | x1
    · exact walk_lg a0 a1 a2 a3 x0 x1 w
    · exact walk_le a0 _ a2 x0 w
    · exact walk_ll a0 a1 a2 a3 x0 x1 w

end Go.Proofs.Qxb6608838aFmt.fnCheckMeetAndJoinOfLimits
