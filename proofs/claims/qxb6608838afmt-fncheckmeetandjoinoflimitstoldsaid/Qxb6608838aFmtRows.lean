/-
  No cell of these rows narrows 'for every input' (looked for: loops, veiled, ifaces, maps, wideKeys, modest, calm, conditions, laid).
  DERIVED. THE GIVEN ROWS OF THIS SEAT. 2 by the template 'for every input the law returns true; each argument reads behind the call as it read before'; 0 by the template 'total and deterministic' (their statements: Qxb6608838aFmtTotals.lean).
  GIVEN WITH THE SEED: the statements are not yours to turn. If you find one false, say at which input.
  Laid BY PROGRAM, IN A SANDBOX (cutbox-rows.mjs): the forced cells as the released guide's own fill.sh prints them over the translation 0f723da2361d6015… (all of the seat's roots in one cut). By AI agents, Wed Nov 11 2026. No macro, syntax, notation, axiom, sorry.
-/
import Derived.Test.Qxb6608838aFmtChecked
import GoSem.Claim
import GoSem.ClaimJoined
import GoSem.ClaimMapViews
import Derived.JoinedTies
import Derived.KernelRfl
namespace Go.Proofs.Qxb6608838aFmt
/- THE CELL 'sum', in the pinned program and in every row, IS THE sha256 OF THE DUMP (.gsa) THAT Qxb6608838aFmtProg.lean LOADS. Nothing in Lean hashes anything: it is a label: what it is worth is what the hold of that sum in a sandbox is worth. -/
noncomputable def Tryf.pinned : Pinned := { name := "qxb6608838afmt", sum := "0f723da2361d6015bf35aa937099b4ceb4b14d8ac6a94b7e115407da68c23e1a", checked := Tryf.checked }
namespace Rows
def none {H : Type} : Left H := { results := [], args := [] }

/-- 'zzlaws_lease_b1.FnCheckJudgesEachFieldAlone': WHATEVER THE INPUT: true; the input reads as it did. -/
def fnCheckJudgesEachFieldAloneSpec : ChangeSpec := { name := "fnCheckJudgesEachFieldAlone", fn := fun _ => fun
  | [d1, d2] => { results := [.lit (.bool true)], args := [d1, d2] }
  | _ => none }
def fnCheckJudgesEachFieldAloneRow : OpenClaim := { program := "qxb6608838afmt", sum := "0f723da2361d6015bf35aa937099b4ceb4b14d8ac6a94b7e115407da68c23e1a", func := "example.com/hermit-crab/hermit-crab/zzlaws_lease_b1.FnCheckJudgesEachFieldAlone", spec := "fnCheckJudgesEachFieldAlone", stops := ["fmt.errorf"], inPlace := ["fmt.errorf"], apart := false }
/-- NO THEOREM (fmt's text is open here; it may be false): for the released tool's asking of the row's closed facts alone. THE STATEMENT IS 'FnCheckJudgesEachFieldAloneToldSaid' (Qxb6608838aFmtCards.lean). -/
def FnCheckJudgesEachFieldAloneFormAsk : Prop := fnCheckJudgesEachFieldAloneRow.holds Tryf.pinned (OpenSpec.ofChange fnCheckJudgesEachFieldAloneSpec)

/-- ITS FALSE NEIGHBOUR: 'it returns false'. Refute it at one input. -/
def fnCheckJudgesEachFieldAloneWrong : ChangeSpec := { name := "fnCheckJudgesEachFieldAlone", fn := fun _ => fun
  | [d1, d2] => { results := [.lit (.bool false)], args := [d1, d2] }
  | _ => none }
def FnCheckJudgesEachFieldAloneWrongFormAsk : Prop := fnCheckJudgesEachFieldAloneRow.holds Tryf.pinned (OpenSpec.ofChange fnCheckJudgesEachFieldAloneWrong)

/-- 'zzlaws_lease_b1.FnCheckMeetAndJoinOfLimits': WHATEVER THE INPUT: true; the input reads as it did. -/
def fnCheckMeetAndJoinOfLimitsSpec : ChangeSpec := { name := "fnCheckMeetAndJoinOfLimits", fn := fun _ => fun
  | [d1, d2, d3, d4] => { results := [.lit (.bool true)], args := [d1, d2, d3, d4] }
  | _ => none }
def fnCheckMeetAndJoinOfLimitsRow : OpenClaim := { program := "qxb6608838afmt", sum := "0f723da2361d6015bf35aa937099b4ceb4b14d8ac6a94b7e115407da68c23e1a", func := "example.com/hermit-crab/hermit-crab/zzlaws_lease_b1.FnCheckMeetAndJoinOfLimits", spec := "fnCheckMeetAndJoinOfLimits", stops := ["fmt.errorf"], inPlace := ["fmt.errorf"], apart := false }
/-- NO THEOREM (fmt's text is open here; it may be false): for the released tool's asking of the row's closed facts alone. THE STATEMENT IS 'FnCheckMeetAndJoinOfLimitsToldSaid' (Qxb6608838aFmtCards.lean). -/
def FnCheckMeetAndJoinOfLimitsFormAsk : Prop := fnCheckMeetAndJoinOfLimitsRow.holds Tryf.pinned (OpenSpec.ofChange fnCheckMeetAndJoinOfLimitsSpec)

/-- ITS FALSE NEIGHBOUR: 'it returns false'. Refute it at one input. -/
def fnCheckMeetAndJoinOfLimitsWrong : ChangeSpec := { name := "fnCheckMeetAndJoinOfLimits", fn := fun _ => fun
  | [d1, d2, d3, d4] => { results := [.lit (.bool false)], args := [d1, d2, d3, d4] }
  | _ => none }
def FnCheckMeetAndJoinOfLimitsWrongFormAsk : Prop := fnCheckMeetAndJoinOfLimitsRow.holds Tryf.pinned (OpenSpec.ofChange fnCheckMeetAndJoinOfLimitsWrong)

end Rows
end Go.Proofs.Qxb6608838aFmt
