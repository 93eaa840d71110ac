import Derived.Test.Qxb6609005aRows
import Derived.Test.Qxb6609005aOpen2
import Derived.Test.Qxb6609005aM5
import Derived.WalkKit
import Derived.ProofKit
import Derived.OpenShut
import Derived.ShutString
import Derived.ChangeOld
import Derived.SliceStrings
import Derived.Below
namespace Go.Proofs.Qxb6609005a.fnViolationsOnFindsEachOvertakenReceive
open Go.ChangeShapes Go.WideShapes Go.ChangeAt Go.RowKit
set_option linter.unusedVariables false

set_option maxRecDepth 100000 in
theorem lifted (os : Os) (started : os.Started) (H : Type) (enc : TypeId × Value → H) :
    ReturnsInHanded {} Try.checked os 5 .any (Rows.fnViolationsOnFindsEachOvertakenReceiveSpec.pre6 enc Try.prog Try.f5 Rows.fnViolationsOnFindsEachOvertakenReceiveRow.domain false) (Rows.fnViolationsOnFindsEachOvertakenReceiveSpec.post enc Try.prog Try.f5 false true false false) := by
  refine returnsInHanded_of_change (C := Try.checked) own started (by kernel_rfl) Try.func5
    (ChangeSpec.witness6 (enc := enc) (C := Try.checked) false ⟨#[], #[.slice none 0 0, .slice none 0 0, .int .u8 0, .slice none 0 0], []⟩ 8 (by kernel_rfl) (by kernel_rfl) (by kernel_rfl) (by kernel_rfl)) ?_
  intro W base args ds gs before hval0 hW hcnd _
  have hval : ∀ (j : Nat) t v, Try.f5.params[j]? = some t → args[j]? = some v → Value.okWide Try.prog W .any base t v := hval0
  have hW' := hW
  obtain ⟨p, q, hA0, hV, rfl, hfz, hnd⟩ := hW
  have hA : DataW.TrodAll enc Try.prog W 0 (fun _ => true) true Try.f5.params.toList args.toList ds p := hA0
  rw [Try.params5] at hA hval
  obtain ⟨v0, vs0, d0, ds0, p0, q0, hargs, rfl, rfl, h0, r0⟩ := trodAll_cons hA
  obtain ⟨v1, vs1, d1, ds1, p1, q1, rfl, rfl, rfl, h1, r1⟩ := trodAll_cons r0
  obtain ⟨v2, vs2, d2, ds2, p2, q2, rfl, rfl, rfl, h2, r2⟩ := trodAll_cons r1
  obtain ⟨v3, vs3, d3, ds3, p3, q3, rfl, rfl, rfl, h3, r3⟩ := trodAll_cons r2
  obtain ⟨rfl, rfl, rfl⟩ := trodAll_nil r3
  obtain rfl : args = #[v0, v1, v2, v3] := by cases args; simp_all
  obtain ⟨rfl, rfl⟩ := trodVars_none hV
  obtain ⟨a0, len0, cap0, rfl⟩ := okWide_slice Try.underlying22 (hval 0 22 v0 rfl rfl)
  obtain ⟨a1, len1, cap1, rfl⟩ := okWide_slice Try.underlying39 (hval 1 39 v1 rfl rfl)
  obtain ⟨a3, len3, cap3, rfl⟩ := okWide_slice Try.underlying40 (hval 3 40 v3 rfl rfl)
  have k0 := h0
  have k1 := h1
  have k2 := h2
  have k3 := h3
  have lt0 : ∀ x ∈ p0, x.block < W.heap.size := by obtain ⟨m, hm⟩ := k0; exact DataW.trod_lt m _ _ _ hm
  have lt1 : ∀ x ∈ p1, x.block < W.heap.size := by obtain ⟨m, hm⟩ := k1; exact DataW.trod_lt m _ _ _ hm
  have lt2 : ∀ x ∈ p2, x.block < W.heap.size := by obtain ⟨m, hm⟩ := k2; exact DataW.trod_lt m _ _ _ hm
  have lt3 : ∀ x ∈ p3, x.block < W.heap.size := by obtain ⟨m, hm⟩ := k3; exact DataW.trod_lt m _ _ _ hm
  obtain ⟨nm, w0, hs0, l0⟩ : ∃ nm : Nat → ByteArray, Rd W a0 len0 (fun i => .string (nm i)) ∧ (∀ i, i < len0 → (nm i).size ≤ maxLen) ∧ len0 ≤ maxLen := by
    obtain ⟨fuel, hf⟩ := h0
    rcases open_strings Try.underlying22 Try.underlying9 (by kernel_rfl) hf with ⟨hcs, _⟩ | ⟨x, l, c, ss, hcs, _, hl, hm, hz, _, hcell, hws⟩
    · simp [Value.cells] at hcs
      obtain ⟨rfl, rfl, rfl⟩ := hcs
      exact ⟨fun _ => ByteArray.empty, .inl rfl, fun i hi => by omega, Nat.zero_le _⟩
    · simp [Value.cells] at hcs
      obtain ⟨rfl, rfl, rfl⟩ := hcs
      simp only [if_true] at hz
      refine ⟨fun i => ss.getD i ByteArray.empty, rd_of hcell (by omega), fun i hi => ?_, by omega⟩
      refine hws _ ?_
      show ss.getD i ByteArray.empty ∈ ss
      rw [List.getD_eq_getElem?_getD, List.getElem?_eq_getElem (by omega : i < ss.length)]
      exact List.getElem_mem _
  obtain ⟨ev, w1, l1⟩ : ∃ ev : Nat → Ev, EvsAt W a1 len1 ev ∧ len1 ≤ maxLen := by
    obtain ⟨fuel, hf⟩ := h1
    obtain ⟨a, m, cap, ev, hcs, hl, hE⟩ := open_hevs hf
    simp [Value.cells] at hcs
    obtain ⟨rfl, rfl, rfl⟩ := hcs
    exact ⟨ev, hE, hl⟩
  obtain ⟨d, e2, hd⟩ : ∃ d : Int, v2 = .int .u8 d ∧ 0 ≤ d ∧ d < 256 := by
    obtain ⟨d, rfl⟩ := okWide_int Try.underlying5 (hval 2 5 v2 rfl rfl)
    obtain ⟨fuel, hf⟩ := h2
    obtain ⟨d', e, _, wd⟩ := DataW.trod_int Try.underlying5 hf
    simp [Value.cells] at e
    subst e
    have := bounds_u8 wd
    exact ⟨_, rfl, by omega, by omega⟩
  subst e2
  obtain ⟨fe, fl, w3, l3, hb3⟩ : ∃ fe fl : Nat → Int, RdI W a3 len3 fe fl ∧ len3 ≤ maxLen ∧ ∀ t, t < len3 → (-9223372036854775808 ≤ fe t ∧ fe t < 9223372036854775808) ∧ (-9223372036854775808 ≤ fl t ∧ fl t < 9223372036854775808) := by
    obtain ⟨fuel, hf⟩ := h3
    obtain ⟨a, m, cap, fe, fl, hcs, hl, hE, hb⟩ := open_found hf
    simp [Value.cells] at hcs
    obtain ⟨rfl, rfl, rfl⟩ := hcs
    exact ⟨fe, fl, hE, hl, hb⟩
  clear hA0 hval0
  refine (main5 a0 len0 cap0 nm a1 len1 cap1 ev d a3 len3 cap3 fe fl W w0 hs0 l0 w1 l1 hd w3 l3 hb3).mono fun e W' ⟨he, bel⟩ => ?_
  subst he
  exact ⟨_, rfl, _, _, _, [], _, [], hW', trodAll_mk1 (shut_bool Try.underlying4 _), (trodAll_cons_mk (Below.trod laidOut (by kernel_rfl) (of_decide_eq_true (by kernel_rfl)) k0 bel lt0) (trodAll_cons_mk (Below.trod laidOut (by kernel_rfl) (of_decide_eq_true (by kernel_rfl)) k1 bel lt1) (trodAll_cons_mk (Below.trod laidOut (by kernel_rfl) (of_decide_eq_true (by kernel_rfl)) k2 bel lt2) (trodAll_cons_mk (Below.trod laidOut (by kernel_rfl) (of_decide_eq_true (by kernel_rfl)) k3 bel lt3) trodAll_mk0)))), rfl, bel.frame _, fun h => by cases h⟩

theorem over : Rows.fnViolationsOnFindsEachOvertakenReceiveRow.holds Try.pinned (OpenSpec.ofChange Rows.fnViolationsOnFindsEachOvertakenReceiveSpec) :=
  OpenClaim.holds_of_wide 5 Try.f5 rfl rfl rfl rfl rfl rfl rfl ⟨rfl, rfl, rfl, rfl, rfl⟩ rfl rfl rfl rfl rfl (by kernel_rfl) Try.func5 (by kernel_rfl)
    (of_decide_eq_true (by kernel_rfl)) (by unfold Func.isWrapper; first | (rw [if_pos (by decide +kernel)]; kernel_rfl) | (rw [if_neg (by decide +kernel)]; exact ⟨rfl, rfl⟩))
    (fun os started H enc _ => lifted os started H enc)

/-- THE STATEMENT -/
theorem proved : Rows.FnViolationsOnFindsEachOvertakenReceiveSaid := over
end Go.Proofs.Qxb6609005a.fnViolationsOnFindsEachOvertakenReceive
