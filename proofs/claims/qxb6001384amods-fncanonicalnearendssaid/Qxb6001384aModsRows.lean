/-
  No cell of these rows narrows 'for every input' (looked for: loops, veiled, ifaces, maps, wideKeys, modest, calm, conditions, laid).
  DERIVED. THE GIVEN ROWS OF THIS SEAT. 3 by the template 'for every input the law returns true; each argument reads behind the call as it read before'; 0 by the template 'total and deterministic' (their statements: Qxb6001384aModsTotals.lean).
  GIVEN WITH THE SEED: the statements are not yours to turn. If you find one false, say at which input.
  Laid BY PROGRAM, IN A SANDBOX (cutbox-rows.mjs): the forced cells as the released guide's own fill.sh prints them over the translation 2aecf97d601cad57… (all of the seat's roots in one cut). By AI agents, Wed Nov 11 2026. No macro, syntax, notation, axiom, sorry.
-/
import Derived.Test.Qxb6001384aModsChecked
import GoSem.Claim
import GoSem.ClaimJoined
import GoSem.ClaimMapViews
import Derived.JoinedTies
import Derived.KernelRfl
namespace Go.Proofs.Qxb6001384aMods
/- THE CELL 'sum', in the pinned program and in every row, IS THE sha256 OF THE DUMP (.gsa) THAT Qxb6001384aModsProg.lean LOADS. Nothing in Lean hashes anything: it is a label: what it is worth is what the hold of that sum in a sandbox is worth. -/
noncomputable def Trym.pinned : Pinned := { name := "qxb6001384amods", sum := "2aecf97d601cad5715fa881e3baa9c17a54e31a6522e31641437c3d19b1ecf8d", checked := Trym.checked }
namespace Rows
def none {H : Type} : Left H := { results := [], args := [] }

/-- 'zzlaws_pkg_vrf_b1.FnCanonicalMatchesArithmeticModel': WHATEVER THE INPUT: true; the input reads as it did. -/
def fnCanonicalMatchesArithmeticModelSpec : ChangeSpec := { name := "fnCanonicalMatchesArithmeticModel", fn := fun _ => fun
  | [d] => { results := [.lit (.bool true)], args := [d] }
  | _ => none }
def fnCanonicalMatchesArithmeticModelRow : OpenClaim := { program := "qxb6001384amods", sum := "2aecf97d601cad5715fa881e3baa9c17a54e31a6522e31641437c3d19b1ecf8d", func := "example.com/clepsydra/clepsydra/zzlaws_pkg_vrf_b1.FnCanonicalMatchesArithmeticModel", spec := "fnCanonicalMatchesArithmeticModel", make := .lifted ["publicsums"], apart := false }
def FnCanonicalMatchesArithmeticModelSaid : Prop := fnCanonicalMatchesArithmeticModelRow.holds Trym.pinned (OpenSpec.ofChange fnCanonicalMatchesArithmeticModelSpec)

/-- ITS FALSE NEIGHBOUR: 'it returns false'. Refute it at one input. -/
def fnCanonicalMatchesArithmeticModelWrong : ChangeSpec := { name := "fnCanonicalMatchesArithmeticModel", fn := fun _ => fun
  | [d] => { results := [.lit (.bool false)], args := [d] }
  | _ => none }
def FnCanonicalMatchesArithmeticModelWrongFalsely : Prop := fnCanonicalMatchesArithmeticModelRow.holds Trym.pinned (OpenSpec.ofChange fnCanonicalMatchesArithmeticModelWrong)

/-- 'zzlaws_pkg_vrf_b1.FnCanonicalClearingSignKeepsAcceptance': WHATEVER THE INPUT: true; the input reads as it did. -/
def fnCanonicalClearingSignKeepsAcceptanceSpec : ChangeSpec := { name := "fnCanonicalClearingSignKeepsAcceptance", fn := fun _ => fun
  | [d] => { results := [.lit (.bool true)], args := [d] }
  | _ => none }
def fnCanonicalClearingSignKeepsAcceptanceRow : OpenClaim := { program := "qxb6001384amods", sum := "2aecf97d601cad5715fa881e3baa9c17a54e31a6522e31641437c3d19b1ecf8d", func := "example.com/clepsydra/clepsydra/zzlaws_pkg_vrf_b1.FnCanonicalClearingSignKeepsAcceptance", spec := "fnCanonicalClearingSignKeepsAcceptance", make := .lifted ["publicsums"], apart := false }
def FnCanonicalClearingSignKeepsAcceptanceSaid : Prop := fnCanonicalClearingSignKeepsAcceptanceRow.holds Trym.pinned (OpenSpec.ofChange fnCanonicalClearingSignKeepsAcceptanceSpec)

/-- ITS FALSE NEIGHBOUR: 'it returns false'. Refute it at one input. -/
def fnCanonicalClearingSignKeepsAcceptanceWrong : ChangeSpec := { name := "fnCanonicalClearingSignKeepsAcceptance", fn := fun _ => fun
  | [d] => { results := [.lit (.bool false)], args := [d] }
  | _ => none }
def FnCanonicalClearingSignKeepsAcceptanceWrongFalsely : Prop := fnCanonicalClearingSignKeepsAcceptanceRow.holds Trym.pinned (OpenSpec.ofChange fnCanonicalClearingSignKeepsAcceptanceWrong)

/-- 'zzlaws_pkg_vrf_b1.FnCanonicalNearEnds': WHATEVER THE INPUT: true; the input reads as it did. -/
def fnCanonicalNearEndsSpec : ChangeSpec := { name := "fnCanonicalNearEnds", fn := fun _ => fun
  | [d1, d2, d3] => { results := [.lit (.bool true)], args := [d1, d2, d3] }
  | _ => none }
def fnCanonicalNearEndsRow : OpenClaim := { program := "qxb6001384amods", sum := "2aecf97d601cad5715fa881e3baa9c17a54e31a6522e31641437c3d19b1ecf8d", func := "example.com/clepsydra/clepsydra/zzlaws_pkg_vrf_b1.FnCanonicalNearEnds", spec := "fnCanonicalNearEnds", make := .lifted ["publicsums"], apart := false }
def FnCanonicalNearEndsSaid : Prop := fnCanonicalNearEndsRow.holds Trym.pinned (OpenSpec.ofChange fnCanonicalNearEndsSpec)

/-- ITS FALSE NEIGHBOUR: 'it returns false'. Refute it at one input. -/
def fnCanonicalNearEndsWrong : ChangeSpec := { name := "fnCanonicalNearEnds", fn := fun _ => fun
  | [d1, d2, d3] => { results := [.lit (.bool false)], args := [d1, d2, d3] }
  | _ => none }
def FnCanonicalNearEndsWrongFalsely : Prop := fnCanonicalNearEndsRow.holds Trym.pinned (OpenSpec.ofChange fnCanonicalNearEndsWrong)

end Rows
end Go.Proofs.Qxb6001384aMods
