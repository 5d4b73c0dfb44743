/-
  No cell of these rows narrows 'for every input' (looked for: loops, veiled, ifaces, maps, wideKeys, modest, calm, conditions, laid).
  DERIVED. THE GIVEN ROWS OF THIS SEAT. 6 by the template 'for every input the law returns true; each argument reads behind the call as it read before'; 0 by the template 'total and deterministic' (their statements: Qxb6601435aModsTotals.lean).
  GIVEN WITH THE SEED: the statements are not yours to turn. If you find one false, say at which input.
  Laid BY PROGRAM, IN A SANDBOX (cutbox-rows.mjs): the forced cells as the released guide's own fill.sh prints them over the translation 436e9b8f0a5f5b0b… (all of the seat's roots in one cut). By AI agents, Wed Nov 11 2026. No macro, syntax, notation, axiom, sorry.
-/
import Derived.Test.Qxb6601435aModsChecked
import GoSem.Claim
import GoSem.ClaimJoined
import GoSem.ClaimMapViews
import Derived.JoinedTies
import Derived.KernelRfl
namespace Go.Proofs.Qxb6601435aMods
/- THE CELL 'sum', in the pinned program and in every row, IS THE sha256 OF THE DUMP (.gsa) THAT Qxb6601435aModsProg.lean LOADS. Nothing in Lean hashes anything: it is a label: what it is worth is what the hold of that sum in a sandbox is worth. -/
noncomputable def Trym.pinned : Pinned := { name := "qxb6601435amods", sum := "436e9b8f0a5f5b0bcc582f29975e9b3810c14e31a03412bf512ff62b34a585eb", checked := Trym.checked }
namespace Rows
def none {H : Type} : Left H := { results := [], args := [] }

/-- 'zzlaws_root_b1.FnTailRowAtMatchesSearch': WHATEVER THE INPUT: true; the input reads as it did. -/
def fnTailRowAtMatchesSearchSpec : ChangeSpec := { name := "fnTailRowAtMatchesSearch", fn := fun _ => fun
  | [d1, d2, d3] => { results := [.lit (.bool true)], args := [d1, d2, d3] }
  | _ => none }
def fnTailRowAtMatchesSearchRow : OpenClaim := { program := "qxb6601435amods", sum := "436e9b8f0a5f5b0bcc582f29975e9b3810c14e31a03412bf512ff62b34a585eb", func := "example.com/probably-before/probably-before/zzlaws_root_b1.FnTailRowAtMatchesSearch", spec := "fnTailRowAtMatchesSearch", make := .lifted ["publicsums"], apart := false }
def FnTailRowAtMatchesSearchSaid : Prop := fnTailRowAtMatchesSearchRow.holds Trym.pinned (OpenSpec.ofChange fnTailRowAtMatchesSearchSpec)

/-- ITS FALSE NEIGHBOUR: 'it returns false'. Refute it at one input. -/
def fnTailRowAtMatchesSearchWrong : ChangeSpec := { name := "fnTailRowAtMatchesSearch", fn := fun _ => fun
  | [d1, d2, d3] => { results := [.lit (.bool false)], args := [d1, d2, d3] }
  | _ => none }
def FnTailRowAtMatchesSearchWrongFalsely : Prop := fnTailRowAtMatchesSearchRow.holds Trym.pinned (OpenSpec.ofChange fnTailRowAtMatchesSearchWrong)

/-- 'zzlaws_root_b1.FnTailRowAtIsSurvival': WHATEVER THE INPUT: true; the input reads as it did. -/
def fnTailRowAtIsSurvivalSpec : ChangeSpec := { name := "fnTailRowAtIsSurvival", fn := fun _ => fun
  | [d1, d2, d3, d4] => { results := [.lit (.bool true)], args := [d1, d2, d3, d4] }
  | _ => none }
def fnTailRowAtIsSurvivalRow : OpenClaim := { program := "qxb6601435amods", sum := "436e9b8f0a5f5b0bcc582f29975e9b3810c14e31a03412bf512ff62b34a585eb", func := "example.com/probably-before/probably-before/zzlaws_root_b1.FnTailRowAtIsSurvival", spec := "fnTailRowAtIsSurvival", make := .lifted ["publicsums"], apart := false }
def FnTailRowAtIsSurvivalSaid : Prop := fnTailRowAtIsSurvivalRow.holds Trym.pinned (OpenSpec.ofChange fnTailRowAtIsSurvivalSpec)

/-- ITS FALSE NEIGHBOUR: 'it returns false'. Refute it at one input. -/
def fnTailRowAtIsSurvivalWrong : ChangeSpec := { name := "fnTailRowAtIsSurvival", fn := fun _ => fun
  | [d1, d2, d3, d4] => { results := [.lit (.bool false)], args := [d1, d2, d3, d4] }
  | _ => none }
def FnTailRowAtIsSurvivalWrongFalsely : Prop := fnTailRowAtIsSurvivalRow.holds Trym.pinned (OpenSpec.ofChange fnTailRowAtIsSurvivalWrong)

/-- 'zzlaws_root_b1.FnVarianceMatchesTwoPass': WHATEVER THE INPUT: true; the input reads as it did. -/
def fnVarianceMatchesTwoPassSpec : ChangeSpec := { name := "fnVarianceMatchesTwoPass", fn := fun _ => fun
  | [d] => { results := [.lit (.bool true)], args := [d] }
  | _ => none }
def fnVarianceMatchesTwoPassRow : OpenClaim := { program := "qxb6601435amods", sum := "436e9b8f0a5f5b0bcc582f29975e9b3810c14e31a03412bf512ff62b34a585eb", func := "example.com/probably-before/probably-before/zzlaws_root_b1.FnVarianceMatchesTwoPass", spec := "fnVarianceMatchesTwoPass", make := .lifted ["publicsums"], apart := false }
def FnVarianceMatchesTwoPassSaid : Prop := fnVarianceMatchesTwoPassRow.holds Trym.pinned (OpenSpec.ofChange fnVarianceMatchesTwoPassSpec)

/-- ITS FALSE NEIGHBOUR: 'it returns false'. Refute it at one input. -/
def fnVarianceMatchesTwoPassWrong : ChangeSpec := { name := "fnVarianceMatchesTwoPass", fn := fun _ => fun
  | [d] => { results := [.lit (.bool false)], args := [d] }
  | _ => none }
def FnVarianceMatchesTwoPassWrongFalsely : Prop := fnVarianceMatchesTwoPassRow.holds Trym.pinned (OpenSpec.ofChange fnVarianceMatchesTwoPassWrong)

/-- 'zzlaws_root_b1.FnShareFitNextCornerIsFixed': WHATEVER THE INPUT: true; the input reads as it did. -/
def fnShareFitNextCornerIsFixedSpec : ChangeSpec := { name := "fnShareFitNextCornerIsFixed", fn := fun _ => fun
  | [d1, d2, d3, d4, d5, d6, d7, d8, d9, d10, d11] => { results := [.lit (.bool true)], args := [d1, d2, d3, d4, d5, d6, d7, d8, d9, d10, d11] }
  | _ => none }
def fnShareFitNextCornerIsFixedRow : OpenClaim := { program := "qxb6601435amods", sum := "436e9b8f0a5f5b0bcc582f29975e9b3810c14e31a03412bf512ff62b34a585eb", func := "example.com/probably-before/probably-before/zzlaws_root_b1.FnShareFitNextCornerIsFixed", spec := "fnShareFitNextCornerIsFixed", make := .lifted ["publicsums"], apart := false }
def FnShareFitNextCornerIsFixedSaid : Prop := fnShareFitNextCornerIsFixedRow.holds Trym.pinned (OpenSpec.ofChange fnShareFitNextCornerIsFixedSpec)

/-- ITS FALSE NEIGHBOUR: 'it returns false'. Refute it at one input. -/
def fnShareFitNextCornerIsFixedWrong : ChangeSpec := { name := "fnShareFitNextCornerIsFixed", fn := fun _ => fun
  | [d1, d2, d3, d4, d5, d6, d7, d8, d9, d10, d11] => { results := [.lit (.bool false)], args := [d1, d2, d3, d4, d5, d6, d7, d8, d9, d10, d11] }
  | _ => none }
def FnShareFitNextCornerIsFixedWrongFalsely : Prop := fnShareFitNextCornerIsFixedRow.holds Trym.pinned (OpenSpec.ofChange fnShareFitNextCornerIsFixedWrong)

/-- 'zzlaws_root_b1.FnShareFitNextKeepsBoundsItStandsOn': WHATEVER THE INPUT: true; the input reads as it did. -/
def fnShareFitNextKeepsBoundsItStandsOnSpec : ChangeSpec := { name := "fnShareFitNextKeepsBoundsItStandsOn", fn := fun _ => fun
  | [d1, d2, d3, d4, d5, d6, d7, d8, d9, d10, d11] => { results := [.lit (.bool true)], args := [d1, d2, d3, d4, d5, d6, d7, d8, d9, d10, d11] }
  | _ => none }
def fnShareFitNextKeepsBoundsItStandsOnRow : OpenClaim := { program := "qxb6601435amods", sum := "436e9b8f0a5f5b0bcc582f29975e9b3810c14e31a03412bf512ff62b34a585eb", func := "example.com/probably-before/probably-before/zzlaws_root_b1.FnShareFitNextKeepsBoundsItStandsOn", spec := "fnShareFitNextKeepsBoundsItStandsOn", make := .lifted ["publicsums"], apart := false }
def FnShareFitNextKeepsBoundsItStandsOnSaid : Prop := fnShareFitNextKeepsBoundsItStandsOnRow.holds Trym.pinned (OpenSpec.ofChange fnShareFitNextKeepsBoundsItStandsOnSpec)

/-- ITS FALSE NEIGHBOUR: 'it returns false'. Refute it at one input. -/
def fnShareFitNextKeepsBoundsItStandsOnWrong : ChangeSpec := { name := "fnShareFitNextKeepsBoundsItStandsOn", fn := fun _ => fun
  | [d1, d2, d3, d4, d5, d6, d7, d8, d9, d10, d11] => { results := [.lit (.bool false)], args := [d1, d2, d3, d4, d5, d6, d7, d8, d9, d10, d11] }
  | _ => none }
def FnShareFitNextKeepsBoundsItStandsOnWrongFalsely : Prop := fnShareFitNextKeepsBoundsItStandsOnRow.holds Trym.pinned (OpenSpec.ofChange fnShareFitNextKeepsBoundsItStandsOnWrong)

/-- 'zzlaws_root_b1.FnShareFitNextStationaryIsFixed': WHATEVER THE INPUT: true; the input reads as it did. -/
def fnShareFitNextStationaryIsFixedSpec : ChangeSpec := { name := "fnShareFitNextStationaryIsFixed", fn := fun _ => fun
  | [d1, d2, d3, d4, d5, d6, d7, d8, d9, d10, d11] => { results := [.lit (.bool true)], args := [d1, d2, d3, d4, d5, d6, d7, d8, d9, d10, d11] }
  | _ => none }
def fnShareFitNextStationaryIsFixedRow : OpenClaim := { program := "qxb6601435amods", sum := "436e9b8f0a5f5b0bcc582f29975e9b3810c14e31a03412bf512ff62b34a585eb", func := "example.com/probably-before/probably-before/zzlaws_root_b1.FnShareFitNextStationaryIsFixed", spec := "fnShareFitNextStationaryIsFixed", make := .lifted ["publicsums"], apart := false }
def FnShareFitNextStationaryIsFixedSaid : Prop := fnShareFitNextStationaryIsFixedRow.holds Trym.pinned (OpenSpec.ofChange fnShareFitNextStationaryIsFixedSpec)

/-- ITS FALSE NEIGHBOUR: 'it returns false'. Refute it at one input. -/
def fnShareFitNextStationaryIsFixedWrong : ChangeSpec := { name := "fnShareFitNextStationaryIsFixed", fn := fun _ => fun
  | [d1, d2, d3, d4, d5, d6, d7, d8, d9, d10, d11] => { results := [.lit (.bool false)], args := [d1, d2, d3, d4, d5, d6, d7, d8, d9, d10, d11] }
  | _ => none }
def FnShareFitNextStationaryIsFixedWrongFalsely : Prop := fnShareFitNextStationaryIsFixedRow.holds Trym.pinned (OpenSpec.ofChange fnShareFitNextStationaryIsFixedWrong)

end Rows
end Go.Proofs.Qxb6601435aMods
