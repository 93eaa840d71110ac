import Derived.Test.Qxb6609005aA7
import Derived.Test.Qxb6609005aA2b
namespace Go.Proofs.Qxb6609005a
open Go.RowKit Go.WideMaps Go.Maps Go.Sort
set_option linter.unusedSimpArgs false
set_option linter.unusedVariables false
set_option linter.unusedSectionVars false

theorem bl_total : ∀ {a b : List UInt8}, Op.bytesLess a b = false → Op.bytesLess b a = false → a = b
  | [], [], _, _ => rfl
  | [], _ :: _, h, _ => by simp [Op.bytesLess] at h
  | _ :: _, [], _, h => by simp [Op.bytesLess] at h
  | x :: a, y :: b, h1, h2 => by
    simp only [Op.bytesLess, Bool.or_eq_false_iff, decide_eq_false_iff_not, Bool.and_eq_false_iff] at h1 h2
    have e : x = y := by
      have h3 : ¬ x < y := h1.1
      have h4 : ¬ y < x := h2.1
      rw [UInt8.lt_iff_toNat_lt] at h3 h4
      exact UInt8.toNat_inj.1 (by omega)
    subst e
    have e1 : Op.bytesLess a b = false := by simpa using h1.2
    have e2 : Op.bytesLess b a = false := by simpa using h2.2
    rw [bl_total e1 e2]

/-- less of the pairs: by the sends of their late receives -/
def Log.key (g : Log) (x y : Nat) : Bool := keyB (g.la x) (g.la y) (g.ho x) (g.ho y)
theorem ltB_toList {a b : ByteArray} : ltB a b = Op.bytesLess a.toList b.toList := rfl

theorem bl_ntrans {a b c : List UInt8} (h1 : Op.bytesLess a b = false) (h2 : Op.bytesLess b c = false) : Op.bytesLess a c = false := by
  cases h : Op.bytesLess a c with
  | false => rfl
  | true =>
    cases h3 : Op.bytesLess b a with
    | true => rw [bl_trans h3 h] at h2; cases h2
    | false => have := bl_total h1 h3; subst this; rw [h] at h2; cases h2

theorem Log.key_swo (g : Log) : Sort.SWO g.key := by
  refine ⟨fun x => ?_, fun x y z h1 h2 => ?_, fun x y z h1 h2 => ?_⟩
  · simp [Log.key, keyB, ltB, bl_irrefl]
  · simp only [Log.key, keyB, Bool.or_eq_true, Bool.and_eq_true, decide_eq_true_eq] at *
    rcases h1 with h1 | ⟨h1, h3⟩
    · rcases h2 with h2 | ⟨h2, h4⟩
      · left; omega
      · left; omega
    · rcases h2 with h2 | ⟨h2, h4⟩
      · left; omega
      · right; exact ⟨by omega, bl_trans h3 h4⟩
  · simp only [Log.key, keyB, Bool.or_eq_false_iff, Bool.and_eq_false_iff, decide_eq_false_iff_not] at *
    obtain ⟨h1, h3⟩ := h1
    obtain ⟨h2, h4⟩ := h2
    refine ⟨by omega, ?_⟩
    by_cases e : g.la x = g.la z
    · right
      have e1 : g.la x = g.la y := by omega
      have e2 : g.la y = g.la z := by omega
      rcases h3 with h3 | h3
      · exact absurd e1 h3
      · rcases h4 with h4 | h4
        · exact absurd e2 h4
        · exact bl_ntrans h3 h4
    · left; exact e

set_option maxRecDepth 100000 in
set_option maxHeartbeats 2000000 in
theorem less_pairs (g : Log) (pc fb o n cap : Nat) (D : Array Nat) (w : World) (L : LogAt w g) (hp : w.cell? ⟨pc, 0, none⟩ = some (.slice (some ⟨fb, o, none⟩) n cap))
    (hr : ∀ i, i < n → w.cell? ⟨fb, o + i * 2 + 1, none⟩ = some (.pointer (some ⟨g.E D[i]!, 0, none⟩)) ∧ D[i]! < g.m ∧ g.rv D[i]! = true) (hn : n < 65536) (i j : Nat) (hi : i < n) (hj : j < n) :
    Calls Try.prog 39 (#[.int .i64 i, .int .i64 j] ++ #[.pointer (some ⟨pc, 0, none⟩)]) w fun e w' => e = .returned (.bool (g.key D[i]! D[j]!)) ∧ ∃ k, w' = w.drewN k := by
  obtain ⟨ci, mi, vi⟩ := hr i hi
  obtain ⟨cj, mj, vj⟩ := hr j hj
  obtain ⟨hpi, kai, kci, X⟩ := L.sent _ mi vi
  obtain ⟨hpj, kaj, kcj, Y⟩ := L.sent _ mj vj
  have x12 := L.cellR mi vi
  have y12 := L.cellR mj vj
  have x0 := X.ev.h0
  have x5 := X.ev.h5
  have y0 := Y.ev.h0
  have y5 := Y.ev.h5
  have hc : Hid (∀ k, Calls Try.prog 40 #[.pointer (some ⟨g.F D[i]!, 0, none⟩), .pointer (some ⟨g.F D[j]!, 0, none⟩)] (w.drewN k) fun e w' => e = .returned (.bool (g.key D[i]! D[j]!)) ∧ ∃ m, w' = (w.drewN k).drewN m) := fun k =>
    lamport_any _ _ _ _ _ _ _ x0 x5 y0 y5
  clear L X Y hr x0 x5 y0 y5
  generalize g.key D[i]! D[j]! = kv at *
  generalize g.E D[i]! = ei at *
  generalize g.E D[j]! = ej at *
  generalize g.F D[i]! = fi at *
  generalize g.F D[j]! = fj at *
  have hiz : (i : Int) < (n : Int) := by omega
  have hjz : (j : Int) < (n : Int) := by omega
  go_enter Try.func39, Try.ntmps39
  go_wp2
  go_quiet ((go_at_call 40; exact Calls.quiet_of (hc.out _)))
  go_wp2
  go_ret
  exact ⟨rfl, _, rfl⟩

end Go.Proofs.Qxb6609005a
