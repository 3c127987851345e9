/-
  No cell of these rows narrows 'for every input' (looked for: loops, veiled, ifaces, maps, wideKeys, modest, calm, conditions, laid).
  DERIVED. THE GIVEN ROWS OF THIS SEAT. 3 by the template 'for every input the law returns true; each argument reads behind the call as it read before'; 0 by the template 'total and deterministic' (their statements: Qxb6001281aModsTotals.lean).
  GIVEN WITH THE SEED: the statements are not yours to turn. If you find one false, say at which input.
  Laid BY PROGRAM, IN A SANDBOX (cutbox-rows.mjs): the forced cells as the released guide's own fill.sh prints them over the translation e651e47032d9ba81… (all of the seat's roots in one cut). By AI agents, Wed Nov 11 2026. No macro, syntax, notation, axiom, sorry.
-/
import Derived.Test.Qxb6001281aModsChecked
import GoSem.Claim
import GoSem.ClaimJoined
import GoSem.ClaimMapViews
import Derived.JoinedTies
import Derived.KernelRfl
namespace Go.Proofs.Qxb6001281aMods
/- THE CELL 'sum', in the pinned program and in every row, IS THE sha256 OF THE DUMP (.gsa) THAT Qxb6001281aModsProg.lean LOADS. Nothing in Lean hashes anything: it is a label: what it is worth is what the hold of that sum in a sandbox is worth. -/
noncomputable def Trym.pinned : Pinned := { name := "qxb6001281amods", sum := "e651e47032d9ba8174d10a886b1cf711a160d2943259fee2a3f3b6cc0b6cb3b6", checked := Trym.checked }
namespace Rows
def none {H : Type} : Left H := { results := [], args := [] }

/-- 'zzlaws_discovery_b1.FnTxtStringsRoundTrip': WHATEVER THE INPUT: true; the input reads as it did. -/
def fnTxtStringsRoundTripSpec : ChangeSpec := { name := "fnTxtStringsRoundTrip", fn := fun _ => fun
  | [d] => { results := [.lit (.bool true)], args := [d] }
  | _ => none }
def fnTxtStringsRoundTripRow : OpenClaim := { program := "qxb6001281amods", sum := "e651e47032d9ba8174d10a886b1cf711a160d2943259fee2a3f3b6cc0b6cb3b6", func := "example.com/tideline/tideline/zzlaws_discovery_b1.FnTxtStringsRoundTrip", spec := "fnTxtStringsRoundTrip", make := .lifted ["publicsums"], apart := false }
def FnTxtStringsRoundTripSaid : Prop := fnTxtStringsRoundTripRow.holds Trym.pinned (OpenSpec.ofChange fnTxtStringsRoundTripSpec)

/-- ITS FALSE NEIGHBOUR: 'it returns false'. Refute it at one input. -/
def fnTxtStringsRoundTripWrong : ChangeSpec := { name := "fnTxtStringsRoundTrip", fn := fun _ => fun
  | [d] => { results := [.lit (.bool false)], args := [d] }
  | _ => none }
def FnTxtStringsRoundTripWrongFalsely : Prop := fnTxtStringsRoundTripRow.holds Trym.pinned (OpenSpec.ofChange fnTxtStringsRoundTripWrong)

/-- 'zzlaws_discovery_b1.FnTxtStringsReencode': WHATEVER THE INPUT: true; the input reads as it did. -/
def fnTxtStringsReencodeSpec : ChangeSpec := { name := "fnTxtStringsReencode", fn := fun _ => fun
  | [d] => { results := [.lit (.bool true)], args := [d] }
  | _ => none }
def fnTxtStringsReencodeRow : OpenClaim := { program := "qxb6001281amods", sum := "e651e47032d9ba8174d10a886b1cf711a160d2943259fee2a3f3b6cc0b6cb3b6", func := "example.com/tideline/tideline/zzlaws_discovery_b1.FnTxtStringsReencode", spec := "fnTxtStringsReencode", make := .lifted ["publicsums"], apart := false }
def FnTxtStringsReencodeSaid : Prop := fnTxtStringsReencodeRow.holds Trym.pinned (OpenSpec.ofChange fnTxtStringsReencodeSpec)

/-- ITS FALSE NEIGHBOUR: 'it returns false'. Refute it at one input. -/
def fnTxtStringsReencodeWrong : ChangeSpec := { name := "fnTxtStringsReencode", fn := fun _ => fun
  | [d] => { results := [.lit (.bool false)], args := [d] }
  | _ => none }
def FnTxtStringsReencodeWrongFalsely : Prop := fnTxtStringsReencodeRow.holds Trym.pinned (OpenSpec.ofChange fnTxtStringsReencodeWrong)

/-- 'zzlaws_discovery_b1.FnTxtStringsTruncatedRefused': WHATEVER THE INPUT: true; the input reads as it did. -/
def fnTxtStringsTruncatedRefusedSpec : ChangeSpec := { name := "fnTxtStringsTruncatedRefused", fn := fun _ => fun
  | [d1, d2, d3] => { results := [.lit (.bool true)], args := [d1, d2, d3] }
  | _ => none }
def fnTxtStringsTruncatedRefusedRow : OpenClaim := { program := "qxb6001281amods", sum := "e651e47032d9ba8174d10a886b1cf711a160d2943259fee2a3f3b6cc0b6cb3b6", func := "example.com/tideline/tideline/zzlaws_discovery_b1.FnTxtStringsTruncatedRefused", spec := "fnTxtStringsTruncatedRefused", make := .lifted ["publicsums"], apart := false }
def FnTxtStringsTruncatedRefusedSaid : Prop := fnTxtStringsTruncatedRefusedRow.holds Trym.pinned (OpenSpec.ofChange fnTxtStringsTruncatedRefusedSpec)

/-- ITS FALSE NEIGHBOUR: 'it returns false'. Refute it at one input. -/
def fnTxtStringsTruncatedRefusedWrong : ChangeSpec := { name := "fnTxtStringsTruncatedRefused", fn := fun _ => fun
  | [d1, d2, d3] => { results := [.lit (.bool false)], args := [d1, d2, d3] }
  | _ => none }
def FnTxtStringsTruncatedRefusedWrongFalsely : Prop := fnTxtStringsTruncatedRefusedRow.holds Trym.pinned (OpenSpec.ofChange fnTxtStringsTruncatedRefusedWrong)

end Rows
end Go.Proofs.Qxb6001281aMods
