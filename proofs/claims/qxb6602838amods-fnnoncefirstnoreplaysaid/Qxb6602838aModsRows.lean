/-
  No cell of these rows narrows 'for every input' (looked for: loops, veiled, ifaces, maps, wideKeys, modest, calm, conditions, laid).
  DERIVED. THE GIVEN ROWS OF THIS SEAT. 5 by the template 'for every input the law returns true; each argument reads behind the call as it read before'; 0 by the template 'total and deterministic' (their statements: Qxb6602838aModsTotals.lean).
  GIVEN WITH THE SEED: the statements are not yours to turn. If you find one false, say at which input.
  Laid BY PROGRAM, IN A SANDBOX (cutbox-rows.mjs): the forced cells as the released guide's own fill.sh prints them over the translation 07b3dd37b4760a6f… (all of the seat's roots in one cut). By AI agents, Wed Nov 11 2026. No macro, syntax, notation, axiom, sorry.
-/
import Derived.Test.Qxb6602838aModsChecked
import GoSem.Claim
import GoSem.ClaimJoined
import GoSem.ClaimMapViews
import Derived.JoinedTies
import Derived.KernelRfl
namespace Go.Proofs.Qxb6602838aMods
/- THE CELL 'sum', in the pinned program and in every row, IS THE sha256 OF THE DUMP (.gsa) THAT Qxb6602838aModsProg.lean LOADS. Nothing in Lean hashes anything: it is a label: what it is worth is what the hold of that sum in a sandbox is worth. -/
noncomputable def Trym.pinned : Pinned := { name := "qxb6602838amods", sum := "07b3dd37b4760a6f922ae4a99e22651c94e924d5144ac3a59c4028bc0ed1caad", checked := Trym.checked }
namespace Rows
def none {H : Type} : Left H := { results := [], args := [] }

/-- 'zzlaws_internal_auth_b1.FnQuotedStringMatchesParityModel': WHATEVER THE INPUT: true; the input reads as it did. -/
def fnQuotedStringMatchesParityModelSpec : ChangeSpec := { name := "fnQuotedStringMatchesParityModel", fn := fun _ => fun
  | [d] => { results := [.lit (.bool true)], args := [d] }
  | _ => none }
def fnQuotedStringMatchesParityModelRow : OpenClaim := { program := "qxb6602838amods", sum := "07b3dd37b4760a6f922ae4a99e22651c94e924d5144ac3a59c4028bc0ed1caad", func := "example.com/utbound/utbound/zzlaws_internal_auth_b1.FnQuotedStringMatchesParityModel", spec := "fnQuotedStringMatchesParityModel", inPlace := ["internal/abi.NoEscape"], make := .lifted ["publicsums"], apart := false }
def FnQuotedStringMatchesParityModelSaid : Prop := fnQuotedStringMatchesParityModelRow.holds Trym.pinned (OpenSpec.ofChange fnQuotedStringMatchesParityModelSpec)

/-- ITS FALSE NEIGHBOUR: 'it returns false'. Refute it at one input. -/
def fnQuotedStringMatchesParityModelWrong : ChangeSpec := { name := "fnQuotedStringMatchesParityModel", fn := fun _ => fun
  | [d] => { results := [.lit (.bool false)], args := [d] }
  | _ => none }
def FnQuotedStringMatchesParityModelWrongFalsely : Prop := fnQuotedStringMatchesParityModelRow.holds Trym.pinned (OpenSpec.ofChange fnQuotedStringMatchesParityModelWrong)

/-- 'zzlaws_internal_auth_b1.FnQuotedStringRoundTrip': WHATEVER THE INPUT: true; the input reads as it did. -/
def fnQuotedStringRoundTripSpec : ChangeSpec := { name := "fnQuotedStringRoundTrip", fn := fun _ => fun
  | [d1, d2] => { results := [.lit (.bool true)], args := [d1, d2] }
  | _ => none }
def fnQuotedStringRoundTripRow : OpenClaim := { program := "qxb6602838amods", sum := "07b3dd37b4760a6f922ae4a99e22651c94e924d5144ac3a59c4028bc0ed1caad", func := "example.com/utbound/utbound/zzlaws_internal_auth_b1.FnQuotedStringRoundTrip", spec := "fnQuotedStringRoundTrip", inPlace := ["internal/abi.NoEscape"], make := .lifted ["publicsums"], apart := false }
def FnQuotedStringRoundTripSaid : Prop := fnQuotedStringRoundTripRow.holds Trym.pinned (OpenSpec.ofChange fnQuotedStringRoundTripSpec)

/-- ITS FALSE NEIGHBOUR: 'it returns false'. Refute it at one input. -/
def fnQuotedStringRoundTripWrong : ChangeSpec := { name := "fnQuotedStringRoundTrip", fn := fun _ => fun
  | [d1, d2] => { results := [.lit (.bool false)], args := [d1, d2] }
  | _ => none }
def FnQuotedStringRoundTripWrongFalsely : Prop := fnQuotedStringRoundTripRow.holds Trym.pinned (OpenSpec.ofChange fnQuotedStringRoundTripWrong)

/-- 'zzlaws_internal_auth_b1.FnNonceFirstWindowModel': WHATEVER THE INPUT: true; the input reads as it did. -/
def fnNonceFirstWindowModelSpec : ChangeSpec := { name := "fnNonceFirstWindowModel", fn := fun _ => fun
  | [d1, d2, d3, d4, d5] => { results := [.lit (.bool true)], args := [d1, d2, d3, d4, d5] }
  | _ => none }
def fnNonceFirstWindowModelRow : OpenClaim := { program := "qxb6602838amods", sum := "07b3dd37b4760a6f922ae4a99e22651c94e924d5144ac3a59c4028bc0ed1caad", func := "example.com/utbound/utbound/zzlaws_internal_auth_b1.FnNonceFirstWindowModel", spec := "fnNonceFirstWindowModel", make := .lifted ["publicsums"], apart := false }
def FnNonceFirstWindowModelSaid : Prop := fnNonceFirstWindowModelRow.holds Trym.pinned (OpenSpec.ofChange fnNonceFirstWindowModelSpec)

/-- ITS FALSE NEIGHBOUR: 'it returns false'. Refute it at one input. -/
def fnNonceFirstWindowModelWrong : ChangeSpec := { name := "fnNonceFirstWindowModel", fn := fun _ => fun
  | [d1, d2, d3, d4, d5] => { results := [.lit (.bool false)], args := [d1, d2, d3, d4, d5] }
  | _ => none }
def FnNonceFirstWindowModelWrongFalsely : Prop := fnNonceFirstWindowModelRow.holds Trym.pinned (OpenSpec.ofChange fnNonceFirstWindowModelWrong)

/-- 'zzlaws_internal_auth_b1.FnNonceFirstNoReplay': WHATEVER THE INPUT: true; the input reads as it did. -/
def fnNonceFirstNoReplaySpec : ChangeSpec := { name := "fnNonceFirstNoReplay", fn := fun _ => fun
  | [d1, d2, d3, d4] => { results := [.lit (.bool true)], args := [d1, d2, d3, d4] }
  | _ => none }
def fnNonceFirstNoReplayRow : OpenClaim := { program := "qxb6602838amods", sum := "07b3dd37b4760a6f922ae4a99e22651c94e924d5144ac3a59c4028bc0ed1caad", func := "example.com/utbound/utbound/zzlaws_internal_auth_b1.FnNonceFirstNoReplay", spec := "fnNonceFirstNoReplay", make := .lifted ["publicsums"], apart := false }
def FnNonceFirstNoReplaySaid : Prop := fnNonceFirstNoReplayRow.holds Trym.pinned (OpenSpec.ofChange fnNonceFirstNoReplaySpec)

/-- ITS FALSE NEIGHBOUR: 'it returns false'. Refute it at one input. -/
def fnNonceFirstNoReplayWrong : ChangeSpec := { name := "fnNonceFirstNoReplay", fn := fun _ => fun
  | [d1, d2, d3, d4] => { results := [.lit (.bool false)], args := [d1, d2, d3, d4] }
  | _ => none }
def FnNonceFirstNoReplayWrongFalsely : Prop := fnNonceFirstNoReplayRow.holds Trym.pinned (OpenSpec.ofChange fnNonceFirstNoReplayWrong)

/-- 'zzlaws_internal_auth_b1.FnNonceFirstRepeatRefused': WHATEVER THE INPUT: true; the input reads as it did. -/
def fnNonceFirstRepeatRefusedSpec : ChangeSpec := { name := "fnNonceFirstRepeatRefused", fn := fun _ => fun
  | [d1, d2, d3, d4] => { results := [.lit (.bool true)], args := [d1, d2, d3, d4] }
  | _ => none }
def fnNonceFirstRepeatRefusedRow : OpenClaim := { program := "qxb6602838amods", sum := "07b3dd37b4760a6f922ae4a99e22651c94e924d5144ac3a59c4028bc0ed1caad", func := "example.com/utbound/utbound/zzlaws_internal_auth_b1.FnNonceFirstRepeatRefused", spec := "fnNonceFirstRepeatRefused", make := .lifted ["publicsums"], apart := false }
def FnNonceFirstRepeatRefusedSaid : Prop := fnNonceFirstRepeatRefusedRow.holds Trym.pinned (OpenSpec.ofChange fnNonceFirstRepeatRefusedSpec)

/-- ITS FALSE NEIGHBOUR: 'it returns false'. Refute it at one input. -/
def fnNonceFirstRepeatRefusedWrong : ChangeSpec := { name := "fnNonceFirstRepeatRefused", fn := fun _ => fun
  | [d1, d2, d3, d4] => { results := [.lit (.bool false)], args := [d1, d2, d3, d4] }
  | _ => none }
def FnNonceFirstRepeatRefusedWrongFalsely : Prop := fnNonceFirstRepeatRefusedRow.holds Trym.pinned (OpenSpec.ofChange fnNonceFirstRepeatRefusedWrong)

end Rows
end Go.Proofs.Qxb6602838aMods
