/-
  No cell of these rows narrows 'for every input' (looked for: loops, veiled, ifaces, maps, wideKeys, modest, calm, conditions, laid).
  DERIVED. THE GIVEN ROWS OF THIS SEAT. 2 by the template 'for every input the law returns true; each argument reads behind the call as it read before'; 0 by the template 'total and deterministic' (their statements: Qxb6608767aTotals.lean).
  GIVEN WITH THE SEED: the statements are not yours to turn. If you find one false, say at which input.
  Laid BY PROGRAM, IN A SANDBOX (cutbox-rows.mjs): the forced cells as the released guide's own fill.sh prints them over the translation c34201ddb2a19c5c… (all of the seat's roots in one cut). By AI agents, Wed Nov 11 2026. No macro, syntax, notation, axiom, sorry.
-/
import Derived.Test.Qxb6608767aChecked
import GoSem.Claim
import GoSem.ClaimJoined
import GoSem.ClaimMapViews
import Derived.JoinedTies
import Derived.KernelRfl
namespace Go.Proofs.Qxb6608767a
/- THE CELL 'sum', in the pinned program and in every row, IS THE sha256 OF THE DUMP (.gsa) THAT Qxb6608767aProg.lean LOADS. Nothing in Lean hashes anything: it is a label: what it is worth is what the hold of that sum in a sandbox is worth. -/
noncomputable def Try.pinned : Pinned := { name := "qxb6608767a", sum := "c34201ddb2a19c5cc376af90ada16182aa73953b65ddf47cdbb97049f96a9135", checked := Try.checked }
namespace Rows
def none {H : Type} : Left H := { results := [], args := [] }

/-- 'zzlaws_internal_store_b1.FnRowBlockSearchLayoutsAgree': WHATEVER THE INPUT: true; the input reads as it did. -/
def fnRowBlockSearchLayoutsAgreeSpec : ChangeSpec := { name := "fnRowBlockSearchLayoutsAgree", fn := fun _ => fun
  | [d1, d2, d3, d4] => { results := [.lit (.bool true)], args := [d1, d2, d3, d4] }
  | _ => none }
def fnRowBlockSearchLayoutsAgreeRow : OpenClaim := { program := "qxb6608767a", sum := "c34201ddb2a19c5cc376af90ada16182aa73953b65ddf47cdbb97049f96a9135", func := "example.com/lockpoint/lockpoint/zzlaws_internal_store_b1.FnRowBlockSearchLayoutsAgree", spec := "fnRowBlockSearchLayoutsAgree", inPlace := ["internal/bytealg.abigen_runtime_cmpstring"], unfollowed := true, recurses := true, apart := false }
def FnRowBlockSearchLayoutsAgreeSaid : Prop := fnRowBlockSearchLayoutsAgreeRow.holds Try.pinned (OpenSpec.ofChange fnRowBlockSearchLayoutsAgreeSpec)

/-- ITS FALSE NEIGHBOUR: 'it returns false'. Refute it at one input. -/
def fnRowBlockSearchLayoutsAgreeWrong : ChangeSpec := { name := "fnRowBlockSearchLayoutsAgree", fn := fun _ => fun
  | [d1, d2, d3, d4] => { results := [.lit (.bool false)], args := [d1, d2, d3, d4] }
  | _ => none }
def FnRowBlockSearchLayoutsAgreeWrongFalsely : Prop := fnRowBlockSearchLayoutsAgreeRow.holds Try.pinned (OpenSpec.ofChange fnRowBlockSearchLayoutsAgreeWrong)

/-- 'zzlaws_internal_store_b1.FnRowBlockSearchFindsItsEntry': WHATEVER THE INPUT: true; the input reads as it did. -/
def fnRowBlockSearchFindsItsEntrySpec : ChangeSpec := { name := "fnRowBlockSearchFindsItsEntry", fn := fun _ => fun
  | [d1, d2, d3, d4] => { results := [.lit (.bool true)], args := [d1, d2, d3, d4] }
  | _ => none }
def fnRowBlockSearchFindsItsEntryRow : OpenClaim := { program := "qxb6608767a", sum := "c34201ddb2a19c5cc376af90ada16182aa73953b65ddf47cdbb97049f96a9135", func := "example.com/lockpoint/lockpoint/zzlaws_internal_store_b1.FnRowBlockSearchFindsItsEntry", spec := "fnRowBlockSearchFindsItsEntry", inPlace := ["internal/bytealg.abigen_runtime_cmpstring"], unfollowed := true, recurses := true, apart := false }
def FnRowBlockSearchFindsItsEntrySaid : Prop := fnRowBlockSearchFindsItsEntryRow.holds Try.pinned (OpenSpec.ofChange fnRowBlockSearchFindsItsEntrySpec)

/-- ITS FALSE NEIGHBOUR: 'it returns false'. Refute it at one input. -/
def fnRowBlockSearchFindsItsEntryWrong : ChangeSpec := { name := "fnRowBlockSearchFindsItsEntry", fn := fun _ => fun
  | [d1, d2, d3, d4] => { results := [.lit (.bool false)], args := [d1, d2, d3, d4] }
  | _ => none }
def FnRowBlockSearchFindsItsEntryWrongFalsely : Prop := fnRowBlockSearchFindsItsEntryRow.holds Try.pinned (OpenSpec.ofChange fnRowBlockSearchFindsItsEntryWrong)

end Rows
end Go.Proofs.Qxb6608767a
