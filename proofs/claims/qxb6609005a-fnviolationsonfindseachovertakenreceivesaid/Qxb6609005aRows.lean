/-
  No cell of these rows narrows 'for every input' (looked for: loops, veiled, ifaces, maps, wideKeys, modest, calm, conditions, laid).
  DERIVED. THE GIVEN ROWS OF THIS SEAT. 4 by the template 'for every input the law returns true; each argument reads behind the call as it read before'; 0 by the template 'total and deterministic' (their statements: Qxb6609005aTotals.lean).
  GIVEN WITH THE SEED: the statements are not yours to turn. If you find one false, say at which input.
  Laid BY PROGRAM, IN A SANDBOX (cutbox-rows.mjs): the forced cells as the released guide's own fill.sh prints them over the translation 5ff657bd756b0a33… (all of the seat's roots in one cut). By AI agents, Wed Nov 11 2026. No macro, syntax, notation, axiom, sorry.
-/
import Derived.Test.Qxb6609005aChecked
import GoSem.Claim
import GoSem.ClaimJoined
import GoSem.ClaimMapViews
import Derived.JoinedTies
import Derived.KernelRfl
namespace Go.Proofs.Qxb6609005a
/- THE CELL 'sum', in the pinned program and in every row, IS THE sha256 OF THE DUMP (.gsa) THAT Qxb6609005aProg.lean LOADS. Nothing in Lean hashes anything: it is a label: what it is worth is what the hold of that sum in a sandbox is worth. -/
noncomputable def Try.pinned : Pinned := { name := "qxb6609005a", sum := "5ff657bd756b0a33efd36f5742500534085adb64e5130332874cbd130176d825", checked := Try.checked }
namespace Rows
def none {H : Type} : Left H := { results := [], args := [] }

/-- 'zzlaws_execlog_b1.FnKnowsIsStrictDominanceAtHost': WHATEVER THE INPUT: true; the input reads as it did. -/
def fnKnowsIsStrictDominanceAtHostSpec : ChangeSpec := { name := "fnKnowsIsStrictDominanceAtHost", fn := fun _ => fun
  | [d1, d2, d3] => { results := [.lit (.bool true)], args := [d1, d2, d3] }
  | _ => none }
def fnKnowsIsStrictDominanceAtHostRow : OpenClaim := { program := "qxb6609005a", sum := "5ff657bd756b0a33efd36f5742500534085adb64e5130332874cbd130176d825", func := "example.com/timeloom/timeloom/zzlaws_execlog_b1.FnKnowsIsStrictDominanceAtHost", spec := "fnKnowsIsStrictDominanceAtHost", plainKeys := false, apart := false }
def FnKnowsIsStrictDominanceAtHostSaid : Prop := fnKnowsIsStrictDominanceAtHostRow.holds Try.pinned (OpenSpec.ofChange fnKnowsIsStrictDominanceAtHostSpec)

/-- ITS FALSE NEIGHBOUR: 'it returns false'. Refute it at one input. -/
def fnKnowsIsStrictDominanceAtHostWrong : ChangeSpec := { name := "fnKnowsIsStrictDominanceAtHost", fn := fun _ => fun
  | [d1, d2, d3] => { results := [.lit (.bool false)], args := [d1, d2, d3] }
  | _ => none }
def FnKnowsIsStrictDominanceAtHostWrongFalsely : Prop := fnKnowsIsStrictDominanceAtHostRow.holds Try.pinned (OpenSpec.ofChange fnKnowsIsStrictDominanceAtHostWrong)

/-- 'zzlaws_execlog_b1.FnKnowsIsTransitive': WHATEVER THE INPUT: true; the input reads as it did. -/
def fnKnowsIsTransitiveSpec : ChangeSpec := { name := "fnKnowsIsTransitive", fn := fun _ => fun
  | [d1, d2, d3, d4] => { results := [.lit (.bool true)], args := [d1, d2, d3, d4] }
  | _ => none }
def fnKnowsIsTransitiveRow : OpenClaim := { program := "qxb6609005a", sum := "5ff657bd756b0a33efd36f5742500534085adb64e5130332874cbd130176d825", func := "example.com/timeloom/timeloom/zzlaws_execlog_b1.FnKnowsIsTransitive", spec := "fnKnowsIsTransitive", plainKeys := false, apart := false }
def FnKnowsIsTransitiveSaid : Prop := fnKnowsIsTransitiveRow.holds Try.pinned (OpenSpec.ofChange fnKnowsIsTransitiveSpec)

/-- ITS FALSE NEIGHBOUR: 'it returns false'. Refute it at one input. -/
def fnKnowsIsTransitiveWrong : ChangeSpec := { name := "fnKnowsIsTransitive", fn := fun _ => fun
  | [d1, d2, d3, d4] => { results := [.lit (.bool false)], args := [d1, d2, d3, d4] }
  | _ => none }
def FnKnowsIsTransitiveWrongFalsely : Prop := fnKnowsIsTransitiveRow.holds Try.pinned (OpenSpec.ofChange fnKnowsIsTransitiveWrong)

/-- 'zzlaws_execlog_b1.FnViolationsOnFindsEachOvertakenReceive': WHATEVER THE INPUT: true; the input reads as it did. -/
def fnViolationsOnFindsEachOvertakenReceiveSpec : ChangeSpec := { name := "fnViolationsOnFindsEachOvertakenReceive", fn := fun _ => fun
  | [d1, d2, d3, d4] => { results := [.lit (.bool true)], args := [d1, d2, d3, d4] }
  | _ => none }
def fnViolationsOnFindsEachOvertakenReceiveRow : OpenClaim := { program := "qxb6609005a", sum := "5ff657bd756b0a33efd36f5742500534085adb64e5130332874cbd130176d825", func := "example.com/timeloom/timeloom/zzlaws_execlog_b1.FnViolationsOnFindsEachOvertakenReceive", spec := "fnViolationsOnFindsEachOvertakenReceive", inPlace := ["internal/reflectlite.ValueOf", "internal/reflectlite.Swapper", "(internal/reflectlite.Value).Len"], unfollowed := true, recurses := true, plainKeys := false, apart := false }
def FnViolationsOnFindsEachOvertakenReceiveSaid : Prop := fnViolationsOnFindsEachOvertakenReceiveRow.holds Try.pinned (OpenSpec.ofChange fnViolationsOnFindsEachOvertakenReceiveSpec)

/-- ITS FALSE NEIGHBOUR: 'it returns false'. Refute it at one input. -/
def fnViolationsOnFindsEachOvertakenReceiveWrong : ChangeSpec := { name := "fnViolationsOnFindsEachOvertakenReceive", fn := fun _ => fun
  | [d1, d2, d3, d4] => { results := [.lit (.bool false)], args := [d1, d2, d3, d4] }
  | _ => none }
def FnViolationsOnFindsEachOvertakenReceiveWrongFalsely : Prop := fnViolationsOnFindsEachOvertakenReceiveRow.holds Try.pinned (OpenSpec.ofChange fnViolationsOnFindsEachOvertakenReceiveWrong)

/-- 'zzlaws_execlog_b1.FnViolationsOnFIFOCountsInversionsWithinCausal': WHATEVER THE INPUT: true; the input reads as it did. -/
def fnViolationsOnFIFOCountsInversionsWithinCausalSpec : ChangeSpec := { name := "fnViolationsOnFIFOCountsInversionsWithinCausal", fn := fun _ => fun
  | [d1, d2] => { results := [.lit (.bool true)], args := [d1, d2] }
  | _ => none }
def fnViolationsOnFIFOCountsInversionsWithinCausalRow : OpenClaim := { program := "qxb6609005a", sum := "5ff657bd756b0a33efd36f5742500534085adb64e5130332874cbd130176d825", func := "example.com/timeloom/timeloom/zzlaws_execlog_b1.FnViolationsOnFIFOCountsInversionsWithinCausal", spec := "fnViolationsOnFIFOCountsInversionsWithinCausal", inPlace := ["internal/reflectlite.ValueOf", "internal/reflectlite.Swapper", "(internal/reflectlite.Value).Len"], unfollowed := true, recurses := true, plainKeys := false, apart := false }
def FnViolationsOnFIFOCountsInversionsWithinCausalSaid : Prop := fnViolationsOnFIFOCountsInversionsWithinCausalRow.holds Try.pinned (OpenSpec.ofChange fnViolationsOnFIFOCountsInversionsWithinCausalSpec)

/-- ITS FALSE NEIGHBOUR: 'it returns false'. Refute it at one input. -/
def fnViolationsOnFIFOCountsInversionsWithinCausalWrong : ChangeSpec := { name := "fnViolationsOnFIFOCountsInversionsWithinCausal", fn := fun _ => fun
  | [d1, d2] => { results := [.lit (.bool false)], args := [d1, d2] }
  | _ => none }
def FnViolationsOnFIFOCountsInversionsWithinCausalWrongFalsely : Prop := fnViolationsOnFIFOCountsInversionsWithinCausalRow.holds Try.pinned (OpenSpec.ofChange fnViolationsOnFIFOCountsInversionsWithinCausalWrong)

end Rows
end Go.Proofs.Qxb6609005a
