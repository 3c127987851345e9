/-
  No cell of these rows narrows 'for every input' (looked for: loops, veiled, ifaces, maps, wideKeys, modest, calm, conditions, laid).
  DERIVED. THE GIVEN ROWS OF THIS SEAT. 3 by the template 'for every input the law returns true; each argument reads behind the call as it read before'; 0 by the template 'total and deterministic' (their statements: Qxb6001772aModsTotals.lean).
  GIVEN WITH THE SEED: the statements are not yours to turn. If you find one false, say at which input.
  Laid BY PROGRAM, IN A SANDBOX (cutbox-rows.mjs): the forced cells as the released guide's own fill.sh prints them over the translation 7cf817fc242d05e3… (all of the seat's roots in one cut). By AI agents, Wed Nov 11 2026. No macro, syntax, notation, axiom, sorry.
-/
import Derived.Test.Qxb6001772aModsChecked
import GoSem.Claim
import GoSem.ClaimJoined
import GoSem.ClaimMapViews
import Derived.JoinedTies
import Derived.KernelRfl
namespace Go.Proofs.Qxb6001772aMods
/- THE CELL 'sum', in the pinned program and in every row, IS THE sha256 OF THE DUMP (.gsa) THAT Qxb6001772aModsProg.lean LOADS. Nothing in Lean hashes anything: it is a label: what it is worth is what the hold of that sum in a sandbox is worth. -/
noncomputable def Trym.pinned : Pinned := { name := "qxb6001772amods", sum := "7cf817fc242d05e391674f1dc97649b799f6f9cc4d5ac2aa6341d70afb8bccac", checked := Trym.checked }
namespace Rows
def none {H : Type} : Left H := { results := [], args := [] }

/-- 'zzlaws_pkg_manifest_b1.FnIsIntegerAcceptsEveryInt64': WHATEVER THE INPUT: true; the input reads as it did. -/
def fnIsIntegerAcceptsEveryInt64Spec : ChangeSpec := { name := "fnIsIntegerAcceptsEveryInt64", fn := fun _ => fun
  | [d] => { results := [.lit (.bool true)], args := [d] }
  | _ => none }
def fnIsIntegerAcceptsEveryInt64Row : OpenClaim := { program := "qxb6001772amods", sum := "7cf817fc242d05e391674f1dc97649b799f6f9cc4d5ac2aa6341d70afb8bccac", func := "example.com/loadwarden/loadwarden/zzlaws_pkg_manifest_b1.FnIsIntegerAcceptsEveryInt64", spec := "fnIsIntegerAcceptsEveryInt64", make := .lifted ["publicsums"], apart := false }
def FnIsIntegerAcceptsEveryInt64Said : Prop := fnIsIntegerAcceptsEveryInt64Row.holds Trym.pinned (OpenSpec.ofChange fnIsIntegerAcceptsEveryInt64Spec)

/-- ITS FALSE NEIGHBOUR: 'it returns false'. Refute it at one input. -/
def fnIsIntegerAcceptsEveryInt64Wrong : ChangeSpec := { name := "fnIsIntegerAcceptsEveryInt64", fn := fun _ => fun
  | [d] => { results := [.lit (.bool false)], args := [d] }
  | _ => none }
def FnIsIntegerAcceptsEveryInt64WrongFalsely : Prop := fnIsIntegerAcceptsEveryInt64Row.holds Trym.pinned (OpenSpec.ofChange fnIsIntegerAcceptsEveryInt64Wrong)

/-- 'zzlaws_pkg_manifest_b1.FnIsIntegerSignSymmetric': WHATEVER THE INPUT: true; the input reads as it did. -/
def fnIsIntegerSignSymmetricSpec : ChangeSpec := { name := "fnIsIntegerSignSymmetric", fn := fun _ => fun
  | [d] => { results := [.lit (.bool true)], args := [d] }
  | _ => none }
def fnIsIntegerSignSymmetricRow : OpenClaim := { program := "qxb6001772amods", sum := "7cf817fc242d05e391674f1dc97649b799f6f9cc4d5ac2aa6341d70afb8bccac", func := "example.com/loadwarden/loadwarden/zzlaws_pkg_manifest_b1.FnIsIntegerSignSymmetric", spec := "fnIsIntegerSignSymmetric", make := .lifted ["publicsums"], apart := false }
def FnIsIntegerSignSymmetricSaid : Prop := fnIsIntegerSignSymmetricRow.holds Trym.pinned (OpenSpec.ofChange fnIsIntegerSignSymmetricSpec)

/-- ITS FALSE NEIGHBOUR: 'it returns false'. Refute it at one input. -/
def fnIsIntegerSignSymmetricWrong : ChangeSpec := { name := "fnIsIntegerSignSymmetric", fn := fun _ => fun
  | [d] => { results := [.lit (.bool false)], args := [d] }
  | _ => none }
def FnIsIntegerSignSymmetricWrongFalsely : Prop := fnIsIntegerSignSymmetricRow.holds Trym.pinned (OpenSpec.ofChange fnIsIntegerSignSymmetricWrong)

/-- 'zzlaws_pkg_manifest_b1.FnIsIntegerGrowsByOneDigit': WHATEVER THE INPUT: true; the input reads as it did. -/
def fnIsIntegerGrowsByOneDigitSpec : ChangeSpec := { name := "fnIsIntegerGrowsByOneDigit", fn := fun _ => fun
  | [d1, d2] => { results := [.lit (.bool true)], args := [d1, d2] }
  | _ => none }
def fnIsIntegerGrowsByOneDigitRow : OpenClaim := { program := "qxb6001772amods", sum := "7cf817fc242d05e391674f1dc97649b799f6f9cc4d5ac2aa6341d70afb8bccac", func := "example.com/loadwarden/loadwarden/zzlaws_pkg_manifest_b1.FnIsIntegerGrowsByOneDigit", spec := "fnIsIntegerGrowsByOneDigit", make := .lifted ["publicsums"], apart := false }
def FnIsIntegerGrowsByOneDigitSaid : Prop := fnIsIntegerGrowsByOneDigitRow.holds Trym.pinned (OpenSpec.ofChange fnIsIntegerGrowsByOneDigitSpec)

/-- ITS FALSE NEIGHBOUR: 'it returns false'. Refute it at one input. -/
def fnIsIntegerGrowsByOneDigitWrong : ChangeSpec := { name := "fnIsIntegerGrowsByOneDigit", fn := fun _ => fun
  | [d1, d2] => { results := [.lit (.bool false)], args := [d1, d2] }
  | _ => none }
def FnIsIntegerGrowsByOneDigitWrongFalsely : Prop := fnIsIntegerGrowsByOneDigitRow.holds Trym.pinned (OpenSpec.ofChange fnIsIntegerGrowsByOneDigitWrong)

end Rows
end Go.Proofs.Qxb6001772aMods
