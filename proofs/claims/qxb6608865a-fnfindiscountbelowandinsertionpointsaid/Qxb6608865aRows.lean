/-
  No cell of these rows narrows 'for every input' (looked for: loops, veiled, ifaces, maps, wideKeys, modest, calm, conditions, laid).
  DERIVED. THE GIVEN ROWS OF THIS SEAT. 2 by the template 'for every input the law returns true; each argument reads behind the call as it read before'; 0 by the template 'total and deterministic' (their statements: Qxb6608865aTotals.lean).
  GIVEN WITH THE SEED: the statements are not yours to turn. If you find one false, say at which input.
  Laid BY PROGRAM, IN A SANDBOX (cutbox-rows.mjs): the forced cells as the released guide's own fill.sh prints them over the translation c9c3a869d5c6f3e6… (all of the seat's roots in one cut). By AI agents, Wed Nov 11 2026. No macro, syntax, notation, axiom, sorry.
-/
import Derived.Test.Qxb6608865aChecked
import GoSem.Claim
import GoSem.ClaimJoined
import GoSem.ClaimMapViews
import Derived.JoinedTies
import Derived.KernelRfl
namespace Go.Proofs.Qxb6608865a
/- THE CELL 'sum', in the pinned program and in every row, IS THE sha256 OF THE DUMP (.gsa) THAT Qxb6608865aProg.lean LOADS. Nothing in Lean hashes anything: it is a label: what it is worth is what the hold of that sum in a sandbox is worth. -/
noncomputable def Try.pinned : Pinned := { name := "qxb6608865a", sum := "c9c3a869d5c6f3e6e3b00acafc42a1d677cb3ea49ac104c2f8a78123ec6c977c", checked := Try.checked }
namespace Rows
def none {H : Type} : Left H := { results := [], args := [] }

/-- 'zzlaws_pkg_register_b1.FnFindIsCountBelowAndInsertionPoint': WHATEVER THE INPUT: true; the input reads as it did. -/
def fnFindIsCountBelowAndInsertionPointSpec : ChangeSpec := { name := "fnFindIsCountBelowAndInsertionPoint", fn := fun _ => fun
  | [d1, d2, d3, d4] => { results := [.lit (.bool true)], args := [d1, d2, d3, d4] }
  | _ => none }
def fnFindIsCountBelowAndInsertionPointRow : OpenClaim := { program := "qxb6608865a", sum := "c9c3a869d5c6f3e6e3b00acafc42a1d677cb3ea49ac104c2f8a78123ec6c977c", func := "example.com/quorate/quorate/zzlaws_pkg_register_b1.FnFindIsCountBelowAndInsertionPoint", spec := "fnFindIsCountBelowAndInsertionPoint", apart := false }
def FnFindIsCountBelowAndInsertionPointSaid : Prop := fnFindIsCountBelowAndInsertionPointRow.holds Try.pinned (OpenSpec.ofChange fnFindIsCountBelowAndInsertionPointSpec)

/-- ITS FALSE NEIGHBOUR: 'it returns false'. Refute it at one input. -/
def fnFindIsCountBelowAndInsertionPointWrong : ChangeSpec := { name := "fnFindIsCountBelowAndInsertionPoint", fn := fun _ => fun
  | [d1, d2, d3, d4] => { results := [.lit (.bool false)], args := [d1, d2, d3, d4] }
  | _ => none }
def FnFindIsCountBelowAndInsertionPointWrongFalsely : Prop := fnFindIsCountBelowAndInsertionPointRow.holds Try.pinned (OpenSpec.ofChange fnFindIsCountBelowAndInsertionPointWrong)

/-- 'zzlaws_pkg_register_b1.FnFindLocatesEveryEntry': WHATEVER THE INPUT: true; the input reads as it did. -/
def fnFindLocatesEveryEntrySpec : ChangeSpec := { name := "fnFindLocatesEveryEntry", fn := fun _ => fun
  | [d1, d2] => { results := [.lit (.bool true)], args := [d1, d2] }
  | _ => none }
def fnFindLocatesEveryEntryRow : OpenClaim := { program := "qxb6608865a", sum := "c9c3a869d5c6f3e6e3b00acafc42a1d677cb3ea49ac104c2f8a78123ec6c977c", func := "example.com/quorate/quorate/zzlaws_pkg_register_b1.FnFindLocatesEveryEntry", spec := "fnFindLocatesEveryEntry", apart := false }
def FnFindLocatesEveryEntrySaid : Prop := fnFindLocatesEveryEntryRow.holds Try.pinned (OpenSpec.ofChange fnFindLocatesEveryEntrySpec)

/-- ITS FALSE NEIGHBOUR: 'it returns false'. Refute it at one input. -/
def fnFindLocatesEveryEntryWrong : ChangeSpec := { name := "fnFindLocatesEveryEntry", fn := fun _ => fun
  | [d1, d2] => { results := [.lit (.bool false)], args := [d1, d2] }
  | _ => none }
def FnFindLocatesEveryEntryWrongFalsely : Prop := fnFindLocatesEveryEntryRow.holds Try.pinned (OpenSpec.ofChange fnFindLocatesEveryEntryWrong)

end Rows
end Go.Proofs.Qxb6608865a
