/-
  No cell of these rows narrows 'for every input' (looked for: loops, veiled, ifaces, maps, wideKeys, modest, calm, conditions, laid).
  DERIVED. THE GIVEN ROWS OF THIS SEAT. 6 by the template 'for every input the law returns true; each argument reads behind the call as it read before'; 0 by the template 'total and deterministic' (their statements: Qxb6000528aTotals.lean).
  GIVEN WITH THE SEED: the statements are not yours to turn. If you find one false, say at which input.
  Laid BY PROGRAM, IN A SANDBOX (cutbox-rows.mjs): the forced cells as the released guide's own fill.sh prints them over the translation 54a6a36989b6cfc8… (all of the seat's roots in one cut). By AI agents, Wed Nov 11 2026. No macro, syntax, notation, axiom, sorry.
-/
import Derived.Test.Qxb6000528aChecked
import GoSem.Claim
import GoSem.ClaimJoined
import GoSem.ClaimMapViews
import Derived.JoinedTies
import Derived.KernelRfl
namespace Go.Proofs.Qxb6000528a
/- THE CELL 'sum', in the pinned program and in every row, IS THE sha256 OF THE DUMP (.gsa) THAT Qxb6000528aProg.lean LOADS. Nothing in Lean hashes anything: it is a label: what it is worth is what the hold of that sum in a sandbox is worth. -/
noncomputable def Try.pinned : Pinned := { name := "qxb6000528a", sum := "54a6a36989b6cfc8acb10f33016d6445a229bf6cdfc1165ab91be03ee235b9e7", checked := Try.checked }
namespace Rows
def none {H : Type} : Left H := { results := [], args := [] }

/-- 'zzlaws_internal_sagalog_b1.FnAppendDigitsRoundTrip': WHATEVER THE INPUT: true; the input reads as it did. -/
def fnAppendDigitsRoundTripSpec : ChangeSpec := { name := "fnAppendDigitsRoundTrip", fn := fun _ => fun
  | [d1, d2, d3] => { results := [.lit (.bool true)], args := [d1, d2, d3] }
  | _ => none }
def fnAppendDigitsRoundTripRow : OpenClaim := { program := "qxb6000528a", sum := "54a6a36989b6cfc8acb10f33016d6445a229bf6cdfc1165ab91be03ee235b9e7", func := "example.com/backstitch/backstitch/zzlaws_internal_sagalog_b1.FnAppendDigitsRoundTrip", spec := "fnAppendDigitsRoundTrip", apart := false }
def FnAppendDigitsRoundTripSaid : Prop := fnAppendDigitsRoundTripRow.holds Try.pinned (OpenSpec.ofChange fnAppendDigitsRoundTripSpec)

/-- ITS FALSE NEIGHBOUR: 'it returns false'. Refute it at one input. -/
def fnAppendDigitsRoundTripWrong : ChangeSpec := { name := "fnAppendDigitsRoundTrip", fn := fun _ => fun
  | [d1, d2, d3] => { results := [.lit (.bool false)], args := [d1, d2, d3] }
  | _ => none }
def FnAppendDigitsRoundTripWrongFalsely : Prop := fnAppendDigitsRoundTripRow.holds Try.pinned (OpenSpec.ofChange fnAppendDigitsRoundTripWrong)

/-- 'zzlaws_internal_sagalog_b1.FnAppendDigitsOrder': WHATEVER THE INPUT: true; the input reads as it did. -/
def fnAppendDigitsOrderSpec : ChangeSpec := { name := "fnAppendDigitsOrder", fn := fun _ => fun
  | [d1, d2, d3] => { results := [.lit (.bool true)], args := [d1, d2, d3] }
  | _ => none }
def fnAppendDigitsOrderRow : OpenClaim := { program := "qxb6000528a", sum := "54a6a36989b6cfc8acb10f33016d6445a229bf6cdfc1165ab91be03ee235b9e7", func := "example.com/backstitch/backstitch/zzlaws_internal_sagalog_b1.FnAppendDigitsOrder", spec := "fnAppendDigitsOrder", apart := false }
def FnAppendDigitsOrderSaid : Prop := fnAppendDigitsOrderRow.holds Try.pinned (OpenSpec.ofChange fnAppendDigitsOrderSpec)

/-- ITS FALSE NEIGHBOUR: 'it returns false'. Refute it at one input. -/
def fnAppendDigitsOrderWrong : ChangeSpec := { name := "fnAppendDigitsOrder", fn := fun _ => fun
  | [d1, d2, d3] => { results := [.lit (.bool false)], args := [d1, d2, d3] }
  | _ => none }
def FnAppendDigitsOrderWrongFalsely : Prop := fnAppendDigitsOrderRow.holds Try.pinned (OpenSpec.ofChange fnAppendDigitsOrderWrong)

/-- 'zzlaws_internal_sagalog_b1.FnStandingKeepsWhatCounts': WHATEVER THE INPUT: true; the input reads as it did. -/
def fnStandingKeepsWhatCountsSpec : ChangeSpec := { name := "fnStandingKeepsWhatCounts", fn := fun _ => fun
  | [d1, d2] => { results := [.lit (.bool true)], args := [d1, d2] }
  | _ => none }
def fnStandingKeepsWhatCountsRow : OpenClaim := { program := "qxb6000528a", sum := "54a6a36989b6cfc8acb10f33016d6445a229bf6cdfc1165ab91be03ee235b9e7", func := "example.com/backstitch/backstitch/zzlaws_internal_sagalog_b1.FnStandingKeepsWhatCounts", spec := "fnStandingKeepsWhatCounts", apart := false }
def FnStandingKeepsWhatCountsSaid : Prop := fnStandingKeepsWhatCountsRow.holds Try.pinned (OpenSpec.ofChange fnStandingKeepsWhatCountsSpec)

/-- ITS FALSE NEIGHBOUR: 'it returns false'. Refute it at one input. -/
def fnStandingKeepsWhatCountsWrong : ChangeSpec := { name := "fnStandingKeepsWhatCounts", fn := fun _ => fun
  | [d1, d2] => { results := [.lit (.bool false)], args := [d1, d2] }
  | _ => none }
def FnStandingKeepsWhatCountsWrongFalsely : Prop := fnStandingKeepsWhatCountsRow.holds Try.pinned (OpenSpec.ofChange fnStandingKeepsWhatCountsWrong)

/-- 'zzlaws_internal_sagalog_b1.FnStandingScriptStaysSmall': WHATEVER THE INPUT: true; the input reads as it did. -/
def fnStandingScriptStaysSmallSpec : ChangeSpec := { name := "fnStandingScriptStaysSmall", fn := fun _ => fun
  | [d] => { results := [.lit (.bool true)], args := [d] }
  | _ => none }
def fnStandingScriptStaysSmallRow : OpenClaim := { program := "qxb6000528a", sum := "54a6a36989b6cfc8acb10f33016d6445a229bf6cdfc1165ab91be03ee235b9e7", func := "example.com/backstitch/backstitch/zzlaws_internal_sagalog_b1.FnStandingScriptStaysSmall", spec := "fnStandingScriptStaysSmall", apart := false }
def FnStandingScriptStaysSmallSaid : Prop := fnStandingScriptStaysSmallRow.holds Try.pinned (OpenSpec.ofChange fnStandingScriptStaysSmallSpec)

/-- ITS FALSE NEIGHBOUR: 'it returns false'. Refute it at one input. -/
def fnStandingScriptStaysSmallWrong : ChangeSpec := { name := "fnStandingScriptStaysSmall", fn := fun _ => fun
  | [d] => { results := [.lit (.bool false)], args := [d] }
  | _ => none }
def FnStandingScriptStaysSmallWrongFalsely : Prop := fnStandingScriptStaysSmallRow.holds Try.pinned (OpenSpec.ofChange fnStandingScriptStaysSmallWrong)

/-- 'zzlaws_internal_sagalog_b1.FnCutLinesSpec': WHATEVER THE INPUT: true; the input reads as it did. -/
def fnCutLinesSpecSpec : ChangeSpec := { name := "fnCutLinesSpec", fn := fun _ => fun
  | [d1, d2] => { results := [.lit (.bool true)], args := [d1, d2] }
  | _ => none }
def fnCutLinesSpecRow : OpenClaim := { program := "qxb6000528a", sum := "54a6a36989b6cfc8acb10f33016d6445a229bf6cdfc1165ab91be03ee235b9e7", func := "example.com/backstitch/backstitch/zzlaws_internal_sagalog_b1.FnCutLinesSpec", spec := "fnCutLinesSpec", inPlace := ["internal/bytealg.IndexByte"], apart := false }
def FnCutLinesSpecSaid : Prop := fnCutLinesSpecRow.holds Try.pinned (OpenSpec.ofChange fnCutLinesSpecSpec)

/-- ITS FALSE NEIGHBOUR: 'it returns false'. Refute it at one input. -/
def fnCutLinesSpecWrong : ChangeSpec := { name := "fnCutLinesSpec", fn := fun _ => fun
  | [d1, d2] => { results := [.lit (.bool false)], args := [d1, d2] }
  | _ => none }
def FnCutLinesSpecWrongFalsely : Prop := fnCutLinesSpecRow.holds Try.pinned (OpenSpec.ofChange fnCutLinesSpecWrong)

/-- 'zzlaws_internal_sagalog_b1.FnCutLinesCompose': WHATEVER THE INPUT: true; the input reads as it did. -/
def fnCutLinesComposeSpec : ChangeSpec := { name := "fnCutLinesCompose", fn := fun _ => fun
  | [d1, d2, d3] => { results := [.lit (.bool true)], args := [d1, d2, d3] }
  | _ => none }
def fnCutLinesComposeRow : OpenClaim := { program := "qxb6000528a", sum := "54a6a36989b6cfc8acb10f33016d6445a229bf6cdfc1165ab91be03ee235b9e7", func := "example.com/backstitch/backstitch/zzlaws_internal_sagalog_b1.FnCutLinesCompose", spec := "fnCutLinesCompose", inPlace := ["internal/bytealg.IndexByte"], apart := false }
def FnCutLinesComposeSaid : Prop := fnCutLinesComposeRow.holds Try.pinned (OpenSpec.ofChange fnCutLinesComposeSpec)

/-- ITS FALSE NEIGHBOUR: 'it returns false'. Refute it at one input. -/
def fnCutLinesComposeWrong : ChangeSpec := { name := "fnCutLinesCompose", fn := fun _ => fun
  | [d1, d2, d3] => { results := [.lit (.bool false)], args := [d1, d2, d3] }
  | _ => none }
def FnCutLinesComposeWrongFalsely : Prop := fnCutLinesComposeRow.holds Try.pinned (OpenSpec.ofChange fnCutLinesComposeWrong)

end Rows
end Go.Proofs.Qxb6000528a
