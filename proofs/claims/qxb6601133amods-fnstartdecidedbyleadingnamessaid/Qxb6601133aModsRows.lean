/-
  No cell of these rows narrows 'for every input' (looked for: loops, veiled, ifaces, maps, wideKeys, modest, calm, conditions, laid).
  DERIVED. THE GIVEN ROWS OF THIS SEAT. 5 by the template 'for every input the law returns true; each argument reads behind the call as it read before'; 0 by the template 'total and deterministic' (their statements: Qxb6601133aModsTotals.lean).
  GIVEN WITH THE SEED: the statements are not yours to turn. If you find one false, say at which input.
  Laid BY PROGRAM, IN A SANDBOX (cutbox-rows.mjs): the forced cells as the released guide's own fill.sh prints them over the translation c91621b099ceb808… (all of the seat's roots in one cut). By AI agents, Wed Nov 11 2026. No macro, syntax, notation, axiom, sorry.
-/
import Derived.Test.Qxb6601133aModsChecked
import GoSem.Claim
import GoSem.ClaimJoined
import GoSem.ClaimMapViews
import Derived.JoinedTies
import Derived.KernelRfl
namespace Go.Proofs.Qxb6601133aMods
/- THE CELL 'sum', in the pinned program and in every row, IS THE sha256 OF THE DUMP (.gsa) THAT Qxb6601133aModsProg.lean LOADS. Nothing in Lean hashes anything: it is a label: what it is worth is what the hold of that sum in a sandbox is worth. -/
noncomputable def Trym.pinned : Pinned := { name := "qxb6601133amods", sum := "c91621b099ceb8082100fb2de9b283695ec4cdbba8cc1cf3f9cd1c1a3a806032", checked := Trym.checked }
namespace Rows
def none {H : Type} : Left H := { results := [], args := [] }

/-- 'zzlaws_chart_b1.FnWalksBeforeByNames': WHATEVER THE INPUT: true; the input reads as it did. -/
def fnWalksBeforeByNamesSpec : ChangeSpec := { name := "fnWalksBeforeByNames", fn := fun _ => fun
  | [d1, d2] => { results := [.lit (.bool true)], args := [d1, d2] }
  | _ => none }
def fnWalksBeforeByNamesRow : OpenClaim := { program := "qxb6601133amods", sum := "c91621b099ceb8082100fb2de9b283695ec4cdbba8cc1cf3f9cd1c1a3a806032", func := "example.com/keelson/keelson/zzlaws_chart_b1.FnWalksBeforeByNames", spec := "fnWalksBeforeByNames", make := .lifted ["publicsums"], apart := false }
def FnWalksBeforeByNamesSaid : Prop := fnWalksBeforeByNamesRow.holds Trym.pinned (OpenSpec.ofChange fnWalksBeforeByNamesSpec)

/-- ITS FALSE NEIGHBOUR: 'it returns false'. Refute it at one input. -/
def fnWalksBeforeByNamesWrong : ChangeSpec := { name := "fnWalksBeforeByNames", fn := fun _ => fun
  | [d1, d2] => { results := [.lit (.bool false)], args := [d1, d2] }
  | _ => none }
def FnWalksBeforeByNamesWrongFalsely : Prop := fnWalksBeforeByNamesRow.holds Trym.pinned (OpenSpec.ofChange fnWalksBeforeByNamesWrong)

/-- 'zzlaws_chart_b1.FnWalksBeforeStrictOrder': WHATEVER THE INPUT: true; the input reads as it did. -/
def fnWalksBeforeStrictOrderSpec : ChangeSpec := { name := "fnWalksBeforeStrictOrder", fn := fun _ => fun
  | [d1, d2, d3] => { results := [.lit (.bool true)], args := [d1, d2, d3] }
  | _ => none }
def fnWalksBeforeStrictOrderRow : OpenClaim := { program := "qxb6601133amods", sum := "c91621b099ceb8082100fb2de9b283695ec4cdbba8cc1cf3f9cd1c1a3a806032", func := "example.com/keelson/keelson/zzlaws_chart_b1.FnWalksBeforeStrictOrder", spec := "fnWalksBeforeStrictOrder", make := .lifted ["publicsums"], apart := false }
def FnWalksBeforeStrictOrderSaid : Prop := fnWalksBeforeStrictOrderRow.holds Trym.pinned (OpenSpec.ofChange fnWalksBeforeStrictOrderSpec)

/-- ITS FALSE NEIGHBOUR: 'it returns false'. Refute it at one input. -/
def fnWalksBeforeStrictOrderWrong : ChangeSpec := { name := "fnWalksBeforeStrictOrder", fn := fun _ => fun
  | [d1, d2, d3] => { results := [.lit (.bool false)], args := [d1, d2, d3] }
  | _ => none }
def FnWalksBeforeStrictOrderWrongFalsely : Prop := fnWalksBeforeStrictOrderRow.holds Trym.pinned (OpenSpec.ofChange fnWalksBeforeStrictOrderWrong)

/-- 'zzlaws_chart_b1.FnStartDecidedByLeadingNames': WHATEVER THE INPUT: true; the input reads as it did. -/
def fnStartDecidedByLeadingNamesSpec : ChangeSpec := { name := "fnStartDecidedByLeadingNames", fn := fun _ => fun
  | [d1, d2, d3, d4] => { results := [.lit (.bool true)], args := [d1, d2, d3, d4] }
  | _ => none }
def fnStartDecidedByLeadingNamesRow : OpenClaim := { program := "qxb6601133amods", sum := "c91621b099ceb8082100fb2de9b283695ec4cdbba8cc1cf3f9cd1c1a3a806032", func := "example.com/keelson/keelson/zzlaws_chart_b1.FnStartDecidedByLeadingNames", spec := "fnStartDecidedByLeadingNames", make := .lifted ["publicsums"], apart := false }
def FnStartDecidedByLeadingNamesSaid : Prop := fnStartDecidedByLeadingNamesRow.holds Trym.pinned (OpenSpec.ofChange fnStartDecidedByLeadingNamesSpec)

/-- ITS FALSE NEIGHBOUR: 'it returns false'. Refute it at one input. -/
def fnStartDecidedByLeadingNamesWrong : ChangeSpec := { name := "fnStartDecidedByLeadingNames", fn := fun _ => fun
  | [d1, d2, d3, d4] => { results := [.lit (.bool false)], args := [d1, d2, d3, d4] }
  | _ => none }
def FnStartDecidedByLeadingNamesWrongFalsely : Prop := fnStartDecidedByLeadingNamesRow.holds Trym.pinned (OpenSpec.ofChange fnStartDecidedByLeadingNamesWrong)

/-- 'zzlaws_chart_b1.FnUntilByRuns': WHATEVER THE INPUT: true; the input reads as it did. -/
def fnUntilByRunsSpec : ChangeSpec := { name := "fnUntilByRuns", fn := fun _ => fun
  | [d1, d2, d3, d4, d5] => { results := [.lit (.bool true)], args := [d1, d2, d3, d4, d5] }
  | _ => none }
def fnUntilByRunsRow : OpenClaim := { program := "qxb6601133amods", sum := "c91621b099ceb8082100fb2de9b283695ec4cdbba8cc1cf3f9cd1c1a3a806032", func := "example.com/keelson/keelson/zzlaws_chart_b1.FnUntilByRuns", spec := "fnUntilByRuns", inPlace := ["internal/bytealg.IndexByteString", "internal/abi.NoEscape"], make := .lifted ["publicsums"], apart := false }
def FnUntilByRunsSaid : Prop := fnUntilByRunsRow.holds Trym.pinned (OpenSpec.ofChange fnUntilByRunsSpec)

/-- ITS FALSE NEIGHBOUR: 'it returns false'. Refute it at one input. -/
def fnUntilByRunsWrong : ChangeSpec := { name := "fnUntilByRuns", fn := fun _ => fun
  | [d1, d2, d3, d4, d5] => { results := [.lit (.bool false)], args := [d1, d2, d3, d4, d5] }
  | _ => none }
def FnUntilByRunsWrongFalsely : Prop := fnUntilByRunsRow.holds Trym.pinned (OpenSpec.ofChange fnUntilByRunsWrong)

/-- 'zzlaws_chart_b1.FnUntilReadsBackWhatWasEscaped': WHATEVER THE INPUT: true; the input reads as it did. -/
def fnUntilReadsBackWhatWasEscapedSpec : ChangeSpec := { name := "fnUntilReadsBackWhatWasEscaped", fn := fun _ => fun
  | [d1, d2, d3, d4] => { results := [.lit (.bool true)], args := [d1, d2, d3, d4] }
  | _ => none }
def fnUntilReadsBackWhatWasEscapedRow : OpenClaim := { program := "qxb6601133amods", sum := "c91621b099ceb8082100fb2de9b283695ec4cdbba8cc1cf3f9cd1c1a3a806032", func := "example.com/keelson/keelson/zzlaws_chart_b1.FnUntilReadsBackWhatWasEscaped", spec := "fnUntilReadsBackWhatWasEscaped", inPlace := ["internal/bytealg.IndexByteString", "internal/abi.NoEscape"], make := .lifted ["publicsums"], apart := false }
def FnUntilReadsBackWhatWasEscapedSaid : Prop := fnUntilReadsBackWhatWasEscapedRow.holds Trym.pinned (OpenSpec.ofChange fnUntilReadsBackWhatWasEscapedSpec)

/-- ITS FALSE NEIGHBOUR: 'it returns false'. Refute it at one input. -/
def fnUntilReadsBackWhatWasEscapedWrong : ChangeSpec := { name := "fnUntilReadsBackWhatWasEscaped", fn := fun _ => fun
  | [d1, d2, d3, d4] => { results := [.lit (.bool false)], args := [d1, d2, d3, d4] }
  | _ => none }
def FnUntilReadsBackWhatWasEscapedWrongFalsely : Prop := fnUntilReadsBackWhatWasEscapedRow.holds Trym.pinned (OpenSpec.ofChange fnUntilReadsBackWhatWasEscapedWrong)

end Rows
end Go.Proofs.Qxb6601133aMods
