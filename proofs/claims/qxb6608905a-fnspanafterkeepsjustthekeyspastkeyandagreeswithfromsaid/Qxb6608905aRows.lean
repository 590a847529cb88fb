/-
  No cell of these rows narrows 'for every input' (looked for: loops, veiled, ifaces, maps, wideKeys, modest, calm, conditions, laid).
  DERIVED. THE GIVEN ROWS OF THIS SEAT. 2 by the template 'for every input the law returns true; each argument reads behind the call as it read before'; 0 by the template 'total and deterministic' (their statements: Qxb6608905aTotals.lean).
  GIVEN WITH THE SEED: the statements are not yours to turn. If you find one false, say at which input.
  Laid BY PROGRAM, IN A SANDBOX (cutbox-rows.mjs): the forced cells as the released guide's own fill.sh prints them over the translation 2a603b809569bb78… (all of the seat's roots in one cut). By AI agents, Wed Nov 11 2026. No macro, syntax, notation, axiom, sorry.
-/
import Derived.Test.Qxb6608905aChecked
import GoSem.Claim
import GoSem.ClaimJoined
import GoSem.ClaimMapViews
import Derived.JoinedTies
import Derived.KernelRfl
namespace Go.Proofs.Qxb6608905a
/- THE CELL 'sum', in the pinned program and in every row, IS THE sha256 OF THE DUMP (.gsa) THAT Qxb6608905aProg.lean LOADS. Nothing in Lean hashes anything: it is a label: what it is worth is what the hold of that sum in a sandbox is worth. -/
noncomputable def Try.pinned : Pinned := { name := "qxb6608905a", sum := "2a603b809569bb789185b0694c606b7c942f81c25beb64af752f07412f2fe83e", checked := Try.checked }
namespace Rows
def none {H : Type} : Left H := { results := [], args := [] }

/-- 'zzlaws_root_b1.FnSpanAfterKeepsJustTheKeysPastKeyAndAgreesWithFrom': WHATEVER THE INPUT: true; the input reads as it did. -/
def fnSpanAfterKeepsJustTheKeysPastKeyAndAgreesWithFromSpec : ChangeSpec := { name := "fnSpanAfterKeepsJustTheKeysPastKeyAndAgreesWithFrom", fn := fun _ => fun
  | [d1, d2, d3, d4, d5] => { results := [.lit (.bool true)], args := [d1, d2, d3, d4, d5] }
  | _ => none }
def fnSpanAfterKeepsJustTheKeysPastKeyAndAgreesWithFromRow : OpenClaim := { program := "qxb6608905a", sum := "2a603b809569bb789185b0694c606b7c942f81c25beb64af752f07412f2fe83e", func := "example.com/forecommit/forecommit/zzlaws_root_b1.FnSpanAfterKeepsJustTheKeysPastKeyAndAgreesWithFrom", spec := "fnSpanAfterKeepsJustTheKeysPastKeyAndAgreesWithFrom", apart := false }
def FnSpanAfterKeepsJustTheKeysPastKeyAndAgreesWithFromSaid : Prop := fnSpanAfterKeepsJustTheKeysPastKeyAndAgreesWithFromRow.holds Try.pinned (OpenSpec.ofChange fnSpanAfterKeepsJustTheKeysPastKeyAndAgreesWithFromSpec)

/-- ITS FALSE NEIGHBOUR: 'it returns false'. Refute it at one input. -/
def fnSpanAfterKeepsJustTheKeysPastKeyAndAgreesWithFromWrong : ChangeSpec := { name := "fnSpanAfterKeepsJustTheKeysPastKeyAndAgreesWithFrom", fn := fun _ => fun
  | [d1, d2, d3, d4, d5] => { results := [.lit (.bool false)], args := [d1, d2, d3, d4, d5] }
  | _ => none }
def FnSpanAfterKeepsJustTheKeysPastKeyAndAgreesWithFromWrongFalsely : Prop := fnSpanAfterKeepsJustTheKeysPastKeyAndAgreesWithFromRow.holds Try.pinned (OpenSpec.ofChange fnSpanAfterKeepsJustTheKeysPastKeyAndAgreesWithFromWrong)

/-- 'zzlaws_root_b1.FnSpanAfterTwiceKeepsWhatLiesPastBothKeysInEitherOrder': WHATEVER THE INPUT: true; the input reads as it did. -/
def fnSpanAfterTwiceKeepsWhatLiesPastBothKeysInEitherOrderSpec : ChangeSpec := { name := "fnSpanAfterTwiceKeepsWhatLiesPastBothKeysInEitherOrder", fn := fun _ => fun
  | [d1, d2, d3, d4, d5, d6] => { results := [.lit (.bool true)], args := [d1, d2, d3, d4, d5, d6] }
  | _ => none }
def fnSpanAfterTwiceKeepsWhatLiesPastBothKeysInEitherOrderRow : OpenClaim := { program := "qxb6608905a", sum := "2a603b809569bb789185b0694c606b7c942f81c25beb64af752f07412f2fe83e", func := "example.com/forecommit/forecommit/zzlaws_root_b1.FnSpanAfterTwiceKeepsWhatLiesPastBothKeysInEitherOrder", spec := "fnSpanAfterTwiceKeepsWhatLiesPastBothKeysInEitherOrder", apart := false }
def FnSpanAfterTwiceKeepsWhatLiesPastBothKeysInEitherOrderSaid : Prop := fnSpanAfterTwiceKeepsWhatLiesPastBothKeysInEitherOrderRow.holds Try.pinned (OpenSpec.ofChange fnSpanAfterTwiceKeepsWhatLiesPastBothKeysInEitherOrderSpec)

/-- ITS FALSE NEIGHBOUR: 'it returns false'. Refute it at one input. -/
def fnSpanAfterTwiceKeepsWhatLiesPastBothKeysInEitherOrderWrong : ChangeSpec := { name := "fnSpanAfterTwiceKeepsWhatLiesPastBothKeysInEitherOrder", fn := fun _ => fun
  | [d1, d2, d3, d4, d5, d6] => { results := [.lit (.bool false)], args := [d1, d2, d3, d4, d5, d6] }
  | _ => none }
def FnSpanAfterTwiceKeepsWhatLiesPastBothKeysInEitherOrderWrongFalsely : Prop := fnSpanAfterTwiceKeepsWhatLiesPastBothKeysInEitherOrderRow.holds Try.pinned (OpenSpec.ofChange fnSpanAfterTwiceKeepsWhatLiesPastBothKeysInEitherOrderWrong)

end Rows
end Go.Proofs.Qxb6608905a
