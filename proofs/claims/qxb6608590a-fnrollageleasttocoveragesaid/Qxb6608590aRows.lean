/-
  No cell of these rows narrows 'for every input' (looked for: loops, veiled, ifaces, maps, wideKeys, modest, calm, conditions, laid).
  DERIVED. THE GIVEN ROWS OF THIS SEAT. 2 by the template 'for every input the law returns true; each argument reads behind the call as it read before'; 0 by the template 'total and deterministic' (their statements: Qxb6608590aTotals.lean).
  GIVEN WITH THE SEED: the statements are not yours to turn. If you find one false, say at which input.
  Laid BY PROGRAM, IN A SANDBOX (cutbox-rows.mjs): the forced cells as the released guide's own fill.sh prints them over the translation 190c5e7ceb3c03de… (all of the seat's roots in one cut). By AI agents, Wed Nov 11 2026. No macro, syntax, notation, axiom, sorry.
-/
import Derived.Test.Qxb6608590aChecked
import GoSem.Claim
import GoSem.ClaimJoined
import GoSem.ClaimMapViews
import Derived.JoinedTies
import Derived.KernelRfl
namespace Go.Proofs.Qxb6608590a
/- THE CELL 'sum', in the pinned program and in every row, IS THE sha256 OF THE DUMP (.gsa) THAT Qxb6608590aProg.lean LOADS. Nothing in Lean hashes anything: it is a label: what it is worth is what the hold of that sum in a sandbox is worth. -/
noncomputable def Try.pinned : Pinned := { name := "qxb6608590a", sum := "190c5e7ceb3c03de5757b1a343c50b92a0518766b1f52f84777ea34705b63068", checked := Try.checked }
namespace Rows
def none {H : Type} : Left H := { results := [], args := [] }

/-- 'zzlaws_store_b1.FnRollAgeLeastToCoverAge': WHATEVER THE INPUT: true; the input reads as it did. -/
def fnRollAgeLeastToCoverAgeSpec : ChangeSpec := { name := "fnRollAgeLeastToCoverAge", fn := fun _ => fun
  | [d1, d2, d3, d4, d5] => { results := [.lit (.bool true)], args := [d1, d2, d3, d4, d5] }
  | _ => none }
def fnRollAgeLeastToCoverAgeRow : OpenClaim := { program := "qxb6608590a", sum := "190c5e7ceb3c03de5757b1a343c50b92a0518766b1f52f84777ea34705b63068", func := "example.com/oncewise/oncewise/zzlaws_store_b1.FnRollAgeLeastToCoverAge", spec := "fnRollAgeLeastToCoverAge", apart := false }
def FnRollAgeLeastToCoverAgeSaid : Prop := fnRollAgeLeastToCoverAgeRow.holds Try.pinned (OpenSpec.ofChange fnRollAgeLeastToCoverAgeSpec)

/-- ITS FALSE NEIGHBOUR: 'it returns false'. Refute it at one input. -/
def fnRollAgeLeastToCoverAgeWrong : ChangeSpec := { name := "fnRollAgeLeastToCoverAge", fn := fun _ => fun
  | [d1, d2, d3, d4, d5] => { results := [.lit (.bool false)], args := [d1, d2, d3, d4, d5] }
  | _ => none }
def FnRollAgeLeastToCoverAgeWrongFalsely : Prop := fnRollAgeLeastToCoverAgeRow.holds Try.pinned (OpenSpec.ofChange fnRollAgeLeastToCoverAgeWrong)

/-- 'zzlaws_store_b1.FnRollAgeShrinksAsEveryGrows': WHATEVER THE INPUT: true; the input reads as it did. -/
def fnRollAgeShrinksAsEveryGrowsSpec : ChangeSpec := { name := "fnRollAgeShrinksAsEveryGrows", fn := fun _ => fun
  | [d1, d2, d3, d4, d5] => { results := [.lit (.bool true)], args := [d1, d2, d3, d4, d5] }
  | _ => none }
def fnRollAgeShrinksAsEveryGrowsRow : OpenClaim := { program := "qxb6608590a", sum := "190c5e7ceb3c03de5757b1a343c50b92a0518766b1f52f84777ea34705b63068", func := "example.com/oncewise/oncewise/zzlaws_store_b1.FnRollAgeShrinksAsEveryGrows", spec := "fnRollAgeShrinksAsEveryGrows", apart := false }
def FnRollAgeShrinksAsEveryGrowsSaid : Prop := fnRollAgeShrinksAsEveryGrowsRow.holds Try.pinned (OpenSpec.ofChange fnRollAgeShrinksAsEveryGrowsSpec)

/-- ITS FALSE NEIGHBOUR: 'it returns false'. Refute it at one input. -/
def fnRollAgeShrinksAsEveryGrowsWrong : ChangeSpec := { name := "fnRollAgeShrinksAsEveryGrows", fn := fun _ => fun
  | [d1, d2, d3, d4, d5] => { results := [.lit (.bool false)], args := [d1, d2, d3, d4, d5] }
  | _ => none }
def FnRollAgeShrinksAsEveryGrowsWrongFalsely : Prop := fnRollAgeShrinksAsEveryGrowsRow.holds Try.pinned (OpenSpec.ofChange fnRollAgeShrinksAsEveryGrowsWrong)

end Rows
end Go.Proofs.Qxb6608590a
