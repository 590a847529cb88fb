/-
  No cell of these rows narrows 'for every input' (looked for: loops, veiled, ifaces, maps, wideKeys, modest, calm, conditions, laid).
  DERIVED. THE GIVEN ROWS OF THIS SEAT. 4 by the template 'for every input the law returns true; each argument reads behind the call as it read before'; 0 by the template 'total and deterministic' (their statements: Qxb6605983aTotals.lean).
  GIVEN WITH THE SEED: the statements are not yours to turn. If you find one false, say at which input.
  Laid BY PROGRAM, IN A SANDBOX (cutbox-rows.mjs): the forced cells as the released guide's own fill.sh prints them over the translation b731d5f122b6ddf1… (all of the seat's roots in one cut). By AI agents, Wed Nov 11 2026. No macro, syntax, notation, axiom, sorry.
-/
import Derived.Test.Qxb6605983aChecked
import GoSem.Claim
import GoSem.ClaimJoined
import GoSem.ClaimMapViews
import Derived.JoinedTies
import Derived.KernelRfl
namespace Go.Proofs.Qxb6605983a
/- THE CELL 'sum', in the pinned program and in every row, IS THE sha256 OF THE DUMP (.gsa) THAT Qxb6605983aProg.lean LOADS. Nothing in Lean hashes anything: it is a label: what it is worth is what the hold of that sum in a sandbox is worth. -/
noncomputable def Try.pinned : Pinned := { name := "qxb6605983a", sum := "b731d5f122b6ddf1887fcb6d217c0c897ac5bdec5510cbd6c27e6f0d584f01fe", checked := Try.checked }
namespace Rows
def none {H : Type} : Left H := { results := [], args := [] }

/-- 'zzlaws_root_b1.FnValidTranslationTypeAtextModel': WHATEVER THE INPUT: true; the input reads as it did. -/
def fnValidTranslationTypeAtextModelSpec : ChangeSpec := { name := "fnValidTranslationTypeAtextModel", fn := fun _ => fun
  | [d] => { results := [.lit (.bool true)], args := [d] }
  | _ => none }
def fnValidTranslationTypeAtextModelRow : OpenClaim := { program := "qxb6605983a", sum := "b731d5f122b6ddf1887fcb6d217c0c897ac5bdec5510cbd6c27e6f0d584f01fe", func := "example.com/polyglot-post/polyglot-post/zzlaws_root_b1.FnValidTranslationTypeAtextModel", spec := "fnValidTranslationTypeAtextModel", inPlace := ["internal/bytealg.IndexByteString"], unfollowed := true, recurses := true, apart := false }
def FnValidTranslationTypeAtextModelSaid : Prop := fnValidTranslationTypeAtextModelRow.holds Try.pinned (OpenSpec.ofChange fnValidTranslationTypeAtextModelSpec)

/-- ITS FALSE NEIGHBOUR: 'it returns false'. Refute it at one input. -/
def fnValidTranslationTypeAtextModelWrong : ChangeSpec := { name := "fnValidTranslationTypeAtextModel", fn := fun _ => fun
  | [d] => { results := [.lit (.bool false)], args := [d] }
  | _ => none }
def FnValidTranslationTypeAtextModelWrongFalsely : Prop := fnValidTranslationTypeAtextModelRow.holds Try.pinned (OpenSpec.ofChange fnValidTranslationTypeAtextModelWrong)

/-- 'zzlaws_root_b1.FnValidTranslationTypeConcat': WHATEVER THE INPUT: true; the input reads as it did. -/
def fnValidTranslationTypeConcatSpec : ChangeSpec := { name := "fnValidTranslationTypeConcat", fn := fun _ => fun
  | [d1, d2] => { results := [.lit (.bool true)], args := [d1, d2] }
  | _ => none }
def fnValidTranslationTypeConcatRow : OpenClaim := { program := "qxb6605983a", sum := "b731d5f122b6ddf1887fcb6d217c0c897ac5bdec5510cbd6c27e6f0d584f01fe", func := "example.com/polyglot-post/polyglot-post/zzlaws_root_b1.FnValidTranslationTypeConcat", spec := "fnValidTranslationTypeConcat", inPlace := ["internal/bytealg.IndexByteString"], unfollowed := true, recurses := true, apart := false }
def FnValidTranslationTypeConcatSaid : Prop := fnValidTranslationTypeConcatRow.holds Try.pinned (OpenSpec.ofChange fnValidTranslationTypeConcatSpec)

/-- ITS FALSE NEIGHBOUR: 'it returns false'. Refute it at one input. -/
def fnValidTranslationTypeConcatWrong : ChangeSpec := { name := "fnValidTranslationTypeConcat", fn := fun _ => fun
  | [d1, d2] => { results := [.lit (.bool false)], args := [d1, d2] }
  | _ => none }
def FnValidTranslationTypeConcatWrongFalsely : Prop := fnValidTranslationTypeConcatRow.holds Try.pinned (OpenSpec.ofChange fnValidTranslationTypeConcatWrong)

/-- 'zzlaws_root_b1.FnReasonRoundTrip': WHATEVER THE INPUT: true; the input reads as it did. -/
def fnReasonRoundTripSpec : ChangeSpec := { name := "fnReasonRoundTrip", fn := fun _ => fun
  | [d1, d2] => { results := [.lit (.bool true)], args := [d1, d2] }
  | _ => none }
def fnReasonRoundTripRow : OpenClaim := { program := "qxb6605983a", sum := "b731d5f122b6ddf1887fcb6d217c0c897ac5bdec5510cbd6c27e6f0d584f01fe", func := "example.com/polyglot-post/polyglot-post/zzlaws_root_b1.FnReasonRoundTrip", spec := "fnReasonRoundTrip", apart := false }
def FnReasonRoundTripSaid : Prop := fnReasonRoundTripRow.holds Try.pinned (OpenSpec.ofChange fnReasonRoundTripSpec)

/-- ITS FALSE NEIGHBOUR: 'it returns false'. Refute it at one input. -/
def fnReasonRoundTripWrong : ChangeSpec := { name := "fnReasonRoundTrip", fn := fun _ => fun
  | [d1, d2] => { results := [.lit (.bool false)], args := [d1, d2] }
  | _ => none }
def FnReasonRoundTripWrongFalsely : Prop := fnReasonRoundTripRow.holds Try.pinned (OpenSpec.ofChange fnReasonRoundTripWrong)

/-- 'zzlaws_root_b1.FnReasonInjectiveInRange': WHATEVER THE INPUT: true; the input reads as it did. -/
def fnReasonInjectiveInRangeSpec : ChangeSpec := { name := "fnReasonInjectiveInRange", fn := fun _ => fun
  | [d1, d2, d3] => { results := [.lit (.bool true)], args := [d1, d2, d3] }
  | _ => none }
def fnReasonInjectiveInRangeRow : OpenClaim := { program := "qxb6605983a", sum := "b731d5f122b6ddf1887fcb6d217c0c897ac5bdec5510cbd6c27e6f0d584f01fe", func := "example.com/polyglot-post/polyglot-post/zzlaws_root_b1.FnReasonInjectiveInRange", spec := "fnReasonInjectiveInRange", apart := false }
def FnReasonInjectiveInRangeSaid : Prop := fnReasonInjectiveInRangeRow.holds Try.pinned (OpenSpec.ofChange fnReasonInjectiveInRangeSpec)

/-- ITS FALSE NEIGHBOUR: 'it returns false'. Refute it at one input. -/
def fnReasonInjectiveInRangeWrong : ChangeSpec := { name := "fnReasonInjectiveInRange", fn := fun _ => fun
  | [d1, d2, d3] => { results := [.lit (.bool false)], args := [d1, d2, d3] }
  | _ => none }
def FnReasonInjectiveInRangeWrongFalsely : Prop := fnReasonInjectiveInRangeRow.holds Try.pinned (OpenSpec.ofChange fnReasonInjectiveInRangeWrong)

end Rows
end Go.Proofs.Qxb6605983a
