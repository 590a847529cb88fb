/-
  DERIVED. GIVEN WITH THE SEED: THE CARDS: each row of Qxb6608838aFmtRows.lean that lists a variable, with what it lists TIED to the program's text (the seventh form; the later family's looks); each row that meets fmt, with fmt's text TOLD by the authors' own Lean function (tested against real Go, not proved from fmt's source: count such statements apart). THE CARD IS WHAT COUNTS. Prove the row's statement (the work); the ties are given (Qxb6608838aFmtTie.lean); close each card by the builder's one call (the guide's Derived/Test/ToyasCard.lean, 'card_holds'). Laid BY PROGRAM, IN A SANDBOX (cutbox-door.mjs). By AI agents, Wed Nov 11 2026. No macro, syntax, notation, axiom, sorry.
-/
import Derived.Test.Qxb6608838aFmtRows
import GoSem.ClaimSeven
namespace Go.Proofs.Qxb6608838aFmt
namespace Rows

/-- THE TOLD CARD OF 'zzlaws_lease_b1.FnCheckJudgesEachFieldAlone'. -/
def fnCheckJudgesEachFieldAloneCard : Claim7 := { stood := { row := fnCheckJudgesEachFieldAloneRow, standIns := [], harness := (true, "791be6a764a7eea0aee67075ffd30b4a897fb3e4eba213836c2996f37b1c1f1f"), looks := false }, told := true, goes := false }
def FnCheckJudgesEachFieldAloneToldSaid : Prop := Claim7.holds Tryf.pinned (.plain (OpenSpec.ofChange fnCheckJudgesEachFieldAloneSpec)) fnCheckJudgesEachFieldAloneCard
/-- ITS FALSE NEIGHBOUR. Refute it at one input. -/
def FnCheckJudgesEachFieldAloneToldWrongFalsely : Prop := Claim7.holds Tryf.pinned (.plain (OpenSpec.ofChange fnCheckJudgesEachFieldAloneWrong)) fnCheckJudgesEachFieldAloneCard

/-- THE TOLD CARD OF 'zzlaws_lease_b1.FnCheckMeetAndJoinOfLimits'. -/
def fnCheckMeetAndJoinOfLimitsCard : Claim7 := { stood := { row := fnCheckMeetAndJoinOfLimitsRow, standIns := [], harness := (true, "791be6a764a7eea0aee67075ffd30b4a897fb3e4eba213836c2996f37b1c1f1f"), looks := false }, told := true, goes := false }
def FnCheckMeetAndJoinOfLimitsToldSaid : Prop := Claim7.holds Tryf.pinned (.plain (OpenSpec.ofChange fnCheckMeetAndJoinOfLimitsSpec)) fnCheckMeetAndJoinOfLimitsCard
/-- ITS FALSE NEIGHBOUR. Refute it at one input. -/
def FnCheckMeetAndJoinOfLimitsToldWrongFalsely : Prop := Claim7.holds Tryf.pinned (.plain (OpenSpec.ofChange fnCheckMeetAndJoinOfLimitsWrong)) fnCheckMeetAndJoinOfLimitsCard
end Rows
end Go.Proofs.Qxb6608838aFmt
