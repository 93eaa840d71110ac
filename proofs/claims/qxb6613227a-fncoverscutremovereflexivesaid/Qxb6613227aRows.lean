/-
  No cell of these rows narrows 'for every input' (looked for: loops, veiled, ifaces, maps, wideKeys, modest, calm, conditions, laid).
  DERIVED. THE GIVEN ROWS OF THIS SEAT. 2 by the template 'for every input the law returns true; each argument reads behind the call as it read before'; 0 by the template 'total and deterministic' (their statements: Qxb6613227aTotals.lean).
  GIVEN WITH THE SEED: the statements are not yours to turn. If you find one false, say at which input.
  Laid BY PROGRAM, IN A SANDBOX (cutbox-rows.mjs): the forced cells as the released guide's own fill.sh prints them over the translation 6716dff2bd5b6b31… (all of the seat's roots in one cut). By AI agents, Wed Nov 11 2026. No macro, syntax, notation, axiom, sorry.
-/
import Derived.Test.Qxb6613227aChecked
import GoSem.Claim
import GoSem.ClaimJoined
import GoSem.ClaimMapViews
import Derived.JoinedTies
import Derived.KernelRfl
namespace Go.Proofs.Qxb6613227a
/- THE CELL 'sum', in the pinned program and in every row, IS THE sha256 OF THE DUMP (.gsa) THAT Qxb6613227aProg.lean LOADS. Nothing in Lean hashes anything: it is a label: what it is worth is what the hold of that sum in a sandbox is worth. -/
noncomputable def Try.pinned : Pinned := { name := "qxb6613227a", sum := "6716dff2bd5b6b312c3ca9ce49bd63e11801a24c4e6b20c3045a507088cf2ac3", checked := Try.checked }
namespace Rows
def none {H : Type} : Left H := { results := [], args := [] }

/-- 'zzlaws_compose_b1.FnCoversCutRemoveReflexive': WHATEVER THE INPUT: true; the input reads as it did. -/
def fnCoversCutRemoveReflexiveSpec : ChangeSpec := { name := "fnCoversCutRemoveReflexive", fn := fun _ => fun
  | [d1, d2, d3, d4, d5] => { results := [.lit (.bool true)], args := [d1, d2, d3, d4, d5] }
  | _ => none }
def fnCoversCutRemoveReflexiveRow : OpenClaim := { program := "qxb6613227a", sum := "6716dff2bd5b6b312c3ca9ce49bd63e11801a24c4e6b20c3045a507088cf2ac3", func := "example.com/arachne/arachne/zzlaws_compose_b1.FnCoversCutRemoveReflexive", spec := "fnCoversCutRemoveReflexive", unfollowed := true, recurses := true, apart := false }
def FnCoversCutRemoveReflexiveSaid : Prop := fnCoversCutRemoveReflexiveRow.holds Try.pinned (OpenSpec.ofChange fnCoversCutRemoveReflexiveSpec)

/-- ITS FALSE NEIGHBOUR: 'it returns false'. Refute it at one input. -/
def fnCoversCutRemoveReflexiveWrong : ChangeSpec := { name := "fnCoversCutRemoveReflexive", fn := fun _ => fun
  | [d1, d2, d3, d4, d5] => { results := [.lit (.bool false)], args := [d1, d2, d3, d4, d5] }
  | _ => none }
def FnCoversCutRemoveReflexiveWrongFalsely : Prop := fnCoversCutRemoveReflexiveRow.holds Try.pinned (OpenSpec.ofChange fnCoversCutRemoveReflexiveWrong)

/-- 'zzlaws_compose_b1.FnCoversInsertOne': WHATEVER THE INPUT: true; the input reads as it did. -/
def fnCoversInsertOneSpec : ChangeSpec := { name := "fnCoversInsertOne", fn := fun _ => fun
  | [d1, d2, d3, d4, d5] => { results := [.lit (.bool true)], args := [d1, d2, d3, d4, d5] }
  | _ => none }
def fnCoversInsertOneRow : OpenClaim := { program := "qxb6613227a", sum := "6716dff2bd5b6b312c3ca9ce49bd63e11801a24c4e6b20c3045a507088cf2ac3", func := "example.com/arachne/arachne/zzlaws_compose_b1.FnCoversInsertOne", spec := "fnCoversInsertOne", unfollowed := true, recurses := true, apart := false }
def FnCoversInsertOneSaid : Prop := fnCoversInsertOneRow.holds Try.pinned (OpenSpec.ofChange fnCoversInsertOneSpec)

/-- ITS FALSE NEIGHBOUR: 'it returns false'. Refute it at one input. -/
def fnCoversInsertOneWrong : ChangeSpec := { name := "fnCoversInsertOne", fn := fun _ => fun
  | [d1, d2, d3, d4, d5] => { results := [.lit (.bool false)], args := [d1, d2, d3, d4, d5] }
  | _ => none }
def FnCoversInsertOneWrongFalsely : Prop := fnCoversInsertOneRow.holds Try.pinned (OpenSpec.ofChange fnCoversInsertOneWrong)

end Rows
end Go.Proofs.Qxb6613227a
