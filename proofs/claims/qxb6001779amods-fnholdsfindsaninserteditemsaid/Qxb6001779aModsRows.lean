/-
  No cell of these rows narrows 'for every input' (looked for: loops, veiled, ifaces, maps, wideKeys, modest, calm, conditions, laid).
  DERIVED. THE GIVEN ROWS OF THIS SEAT. 3 by the template 'for every input the law returns true; each argument reads behind the call as it read before'; 0 by the template 'total and deterministic' (their statements: Qxb6001779aModsTotals.lean).
  GIVEN WITH THE SEED: the statements are not yours to turn. If you find one false, say at which input.
  Laid BY PROGRAM, IN A SANDBOX (cutbox-rows.mjs): the forced cells as the released guide's own fill.sh prints them over the translation 047037e522c907fd… (all of the seat's roots in one cut). By AI agents, Wed Nov 11 2026. No macro, syntax, notation, axiom, sorry.
-/
import Derived.Test.Qxb6001779aModsChecked
import GoSem.Claim
import GoSem.ClaimJoined
import GoSem.ClaimMapViews
import Derived.JoinedTies
import Derived.KernelRfl
namespace Go.Proofs.Qxb6001779aMods
/- THE CELL 'sum', in the pinned program and in every row, IS THE sha256 OF THE DUMP (.gsa) THAT Qxb6001779aModsProg.lean LOADS. Nothing in Lean hashes anything: it is a label: what it is worth is what the hold of that sum in a sandbox is worth. -/
noncomputable def Trym.pinned : Pinned := { name := "qxb6001779amods", sum := "047037e522c907fd1975d0ab10d44479ed3ce1ec639a88db8228cbad29af4dcf", checked := Trym.checked }
namespace Rows
def none {H : Type} : Left H := { results := [], args := [] }

/-- 'zzlaws_pkg_operator_b1.FnHoldsFindsAnInsertedItem': WHATEVER THE INPUT: true; the input reads as it did. -/
def fnHoldsFindsAnInsertedItemSpec : ChangeSpec := { name := "fnHoldsFindsAnInsertedItem", fn := fun _ => fun
  | [d1, d2, d3] => { results := [.lit (.bool true)], args := [d1, d2, d3] }
  | _ => none }
def fnHoldsFindsAnInsertedItemRow : OpenClaim := { program := "qxb6001779amods", sum := "047037e522c907fd1975d0ab10d44479ed3ce1ec639a88db8228cbad29af4dcf", func := "example.com/loadwarden/loadwarden/zzlaws_pkg_operator_b1.FnHoldsFindsAnInsertedItem", spec := "fnHoldsFindsAnInsertedItem", make := .lifted ["publicsums"], apart := false }
def FnHoldsFindsAnInsertedItemSaid : Prop := fnHoldsFindsAnInsertedItemRow.holds Trym.pinned (OpenSpec.ofChange fnHoldsFindsAnInsertedItemSpec)

/-- ITS FALSE NEIGHBOUR: 'it returns false'. Refute it at one input. -/
def fnHoldsFindsAnInsertedItemWrong : ChangeSpec := { name := "fnHoldsFindsAnInsertedItem", fn := fun _ => fun
  | [d1, d2, d3] => { results := [.lit (.bool false)], args := [d1, d2, d3] }
  | _ => none }
def FnHoldsFindsAnInsertedItemWrongFalsely : Prop := fnHoldsFindsAnInsertedItemRow.holds Trym.pinned (OpenSpec.ofChange fnHoldsFindsAnInsertedItemWrong)

/-- 'zzlaws_pkg_operator_b1.FnHoldsSplitsOverConcatenation': WHATEVER THE INPUT: true; the input reads as it did. -/
def fnHoldsSplitsOverConcatenationSpec : ChangeSpec := { name := "fnHoldsSplitsOverConcatenation", fn := fun _ => fun
  | [d1, d2, d3] => { results := [.lit (.bool true)], args := [d1, d2, d3] }
  | _ => none }
def fnHoldsSplitsOverConcatenationRow : OpenClaim := { program := "qxb6001779amods", sum := "047037e522c907fd1975d0ab10d44479ed3ce1ec639a88db8228cbad29af4dcf", func := "example.com/loadwarden/loadwarden/zzlaws_pkg_operator_b1.FnHoldsSplitsOverConcatenation", spec := "fnHoldsSplitsOverConcatenation", make := .lifted ["publicsums"], apart := false }
def FnHoldsSplitsOverConcatenationSaid : Prop := fnHoldsSplitsOverConcatenationRow.holds Trym.pinned (OpenSpec.ofChange fnHoldsSplitsOverConcatenationSpec)

/-- ITS FALSE NEIGHBOUR: 'it returns false'. Refute it at one input. -/
def fnHoldsSplitsOverConcatenationWrong : ChangeSpec := { name := "fnHoldsSplitsOverConcatenation", fn := fun _ => fun
  | [d1, d2, d3] => { results := [.lit (.bool false)], args := [d1, d2, d3] }
  | _ => none }
def FnHoldsSplitsOverConcatenationWrongFalsely : Prop := fnHoldsSplitsOverConcatenationRow.holds Trym.pinned (OpenSpec.ofChange fnHoldsSplitsOverConcatenationWrong)

/-- 'zzlaws_pkg_operator_b1.FnHoldsIffRemovingShrinks': WHATEVER THE INPUT: true; the input reads as it did. -/
def fnHoldsIffRemovingShrinksSpec : ChangeSpec := { name := "fnHoldsIffRemovingShrinks", fn := fun _ => fun
  | [d1, d2, d3] => { results := [.lit (.bool true)], args := [d1, d2, d3] }
  | _ => none }
def fnHoldsIffRemovingShrinksRow : OpenClaim := { program := "qxb6001779amods", sum := "047037e522c907fd1975d0ab10d44479ed3ce1ec639a88db8228cbad29af4dcf", func := "example.com/loadwarden/loadwarden/zzlaws_pkg_operator_b1.FnHoldsIffRemovingShrinks", spec := "fnHoldsIffRemovingShrinks", make := .lifted ["publicsums"], apart := false }
def FnHoldsIffRemovingShrinksSaid : Prop := fnHoldsIffRemovingShrinksRow.holds Trym.pinned (OpenSpec.ofChange fnHoldsIffRemovingShrinksSpec)

/-- ITS FALSE NEIGHBOUR: 'it returns false'. Refute it at one input. -/
def fnHoldsIffRemovingShrinksWrong : ChangeSpec := { name := "fnHoldsIffRemovingShrinks", fn := fun _ => fun
  | [d1, d2, d3] => { results := [.lit (.bool false)], args := [d1, d2, d3] }
  | _ => none }
def FnHoldsIffRemovingShrinksWrongFalsely : Prop := fnHoldsIffRemovingShrinksRow.holds Trym.pinned (OpenSpec.ofChange fnHoldsIffRemovingShrinksWrong)

end Rows
end Go.Proofs.Qxb6001779aMods
