import Derived.Test.Qxb6613227aW5
namespace Go.Proofs.Qxb6613227a
open Go.RowKit
set_option linter.unusedSimpArgs false
set_option linter.unusedVariables false

theorem nat_of {n : Nat} {f : Nat → Int} (h : ∀ i, i < n → 0 ≤ f i ∧ f i < 4096) : ∃ g : Nat → Nat, ∀ i, i < n → f i = (g i : Int) ∧ g i < 4096 :=
  ⟨fun i => (f i).toNat, fun i hi => by have := h i hi; dsimp only; omega⟩

set_option maxRecDepth 100000 in
set_option maxHeartbeats 1000000 in
theorem neg4 (a0 a1 a2 : Option Addr) (n0 c0 n1 c1 n2 c2 : Nat) (fe fw : Nat → Int) (cf : Nat → Bool) (x c : Int) (w : World)
    (h0 : Rd w a0 n0 (fun i => .int .i64 (fe i))) (h1 : Rd w a1 n1 (fun i => .int .i64 (fw i))) (h2 : Rd w a2 n2 (fun i => .bool (cf i)))
    (l0 : n0 ≤ maxLen) (l1 : n1 ≤ maxLen) (l2 : n2 ≤ maxLen) (hneg : ¬ ((n0 ≤ 4096 ∧ n1 ≤ 4096 ∧ n2 ≤ 4096) ∧ (0 ≤ x ∧ x < 4096) ∧ (0 ≤ c ∧ c ≤ n0))) :
    Calls Try.prog 4 #[.slice a0 n0 c0, .slice a1 n1 c1, .slice a2 n2 c2, .int .i64 x, .int .i64 c] w fun e w' => e = .returned (.bool true) ∧ Below w.heap.size w w' := by
  have H0 : Hid (Rd w a0 n0 (fun i => .int .i64 (fe i))) := h0
  have H1 : Hid (Rd w a1 n1 (fun i => .int .i64 (fw i))) := h1
  have H2 : Hid (Rd w a2 n2 (fun i => .bool (cf i))) := h2
  have LM : Hid (n0 ≤ maxLen ∧ n1 ≤ maxLen ∧ n2 ≤ maxLen) := ⟨l0, l1, l2⟩
  unfold maxLen at l0 l1 l2
  clear h0 h1 h2
  by_cases hsm : n0 ≤ 4096 ∧ n1 ≤ 4096 ∧ n2 ≤ 4096
  · have hxc : ¬ ((0 ≤ x ∧ x < 4096) ∧ (0 ≤ c ∧ c ≤ n0)) := fun h => hneg ⟨hsm, h⟩
    obtain ⟨s0, s1, s2⟩ := hsm
    clear hneg
    go_enter Try.func4, Try.ntmps4
    go_wp2_with fail
    go_at_call 13
    refine (zzBytes13 _ _ _ _ _ _ _ _ _ _ _ _ LM.out.1 LM.out.2.1 LM.out.2.2).mono ?_
    rintro e w' ⟨⟨r, rfl, -⟩, hw⟩
    rw [hw]
    clear hw
    cases r with
    | false =>
      go_wp2
      go_ret
      exact ⟨rfl, Below.refl _ _⟩
    | true =>
      by_cases k1 : x < 0
      · go_wp2
        go_ret
        exact ⟨rfl, Below.refl _ _⟩
      by_cases k2 : 4096 ≤ x
      · go_wp2
        go_ret
        exact ⟨rfl, Below.refl _ _⟩
      by_cases k3 : c < 0
      · go_wp2
        go_ret
        exact ⟨rfl, Below.refl _ _⟩
      have k4 : (n0 : Int) < c := by omega
      clear hxc
      go_wp2
      go_ret
      exact ⟨rfl, Below.refl _ _⟩
  · clear hneg
    go_enter Try.func4, Try.ntmps4
    go_wp2_with fail
    go_at_call 13
    refine (zzBytes13 _ _ _ _ _ _ _ _ _ _ _ _ LM.out.1 LM.out.2.1 LM.out.2.2).mono ?_
    rintro e w' ⟨⟨r, rfl, -⟩, hw⟩
    rw [hw]
    clear hw
    cases r with
    | false =>
      go_wp2
      go_ret
      exact ⟨rfl, Below.refl _ _⟩
    | true =>
      by_cases k1 : 4096 < n0
      · go_wp2
        go_ret
        exact ⟨rfl, Below.refl _ _⟩
      by_cases k2 : 4096 < n1
      · go_wp2
        go_ret
        exact ⟨rfl, Below.refl _ _⟩
      have k3 : 4096 < n2 := by omega
      clear hsm
      go_wp2
      go_ret
      exact ⟨rfl, Below.refl _ _⟩

set_option maxRecDepth 100000 in
set_option maxHeartbeats 1000000 in
theorem neg3 (a0 a1 a2 : Option Addr) (n0 c0 n1 c1 n2 c2 : Nat) (fe fw : Nat → Int) (cf : Nat → Bool) (x c : Int) (w : World)
    (h0 : Rd w a0 n0 (fun i => .int .i64 (fe i))) (h1 : Rd w a1 n1 (fun i => .int .i64 (fw i))) (h2 : Rd w a2 n2 (fun i => .bool (cf i)))
    (l0 : n0 ≤ maxLen) (l1 : n1 ≤ maxLen) (l2 : n2 ≤ maxLen) (hneg : ¬ ((n0 ≤ 4096 ∧ n1 ≤ 4096 ∧ n2 ≤ 4096) ∧ (0 ≤ x ∧ x < 4096) ∧ (0 ≤ c ∧ c ≤ n0))) :
    Calls Try.prog 3 #[.slice a0 n0 c0, .slice a1 n1 c1, .slice a2 n2 c2, .int .i64 x, .int .i64 c] w fun e w' => e = .returned (.bool true) ∧ Below w.heap.size w w' := by
  have H0 : Hid (Rd w a0 n0 (fun i => .int .i64 (fe i))) := h0
  have H1 : Hid (Rd w a1 n1 (fun i => .int .i64 (fw i))) := h1
  have H2 : Hid (Rd w a2 n2 (fun i => .bool (cf i))) := h2
  have LM : Hid (n0 ≤ maxLen ∧ n1 ≤ maxLen ∧ n2 ≤ maxLen) := ⟨l0, l1, l2⟩
  unfold maxLen at l0 l1 l2
  clear h0 h1 h2
  by_cases hsm : n0 ≤ 4096 ∧ n1 ≤ 4096 ∧ n2 ≤ 4096
  · have hxc : ¬ ((0 ≤ x ∧ x < 4096) ∧ (0 ≤ c ∧ c ≤ n0)) := fun h => hneg ⟨hsm, h⟩
    obtain ⟨s0, s1, s2⟩ := hsm
    clear hneg
    go_enter Try.func3, Try.ntmps3
    go_wp2_with fail
    go_at_call 5
    refine (zzBytes5 _ _ _ _ _ _ _ _ _ _ _ _ LM.out.1 LM.out.2.1 LM.out.2.2).mono ?_
    rintro e w' ⟨⟨r, rfl, -⟩, hw⟩
    rw [hw]
    clear hw
    cases r with
    | false =>
      go_wp2
      go_ret
      exact ⟨rfl, Below.refl _ _⟩
    | true =>
      by_cases k1 : x < 0
      · go_wp2
        go_ret
        exact ⟨rfl, Below.refl _ _⟩
      by_cases k2 : 4096 ≤ x
      · go_wp2
        go_ret
        exact ⟨rfl, Below.refl _ _⟩
      by_cases k3 : c < 0
      · go_wp2
        go_ret
        exact ⟨rfl, Below.refl _ _⟩
      have k4 : (n0 : Int) < c := by omega
      clear hxc
      go_wp2
      go_ret
      exact ⟨rfl, Below.refl _ _⟩
  · clear hneg
    go_enter Try.func3, Try.ntmps3
    go_wp2_with fail
    go_at_call 5
    refine (zzBytes5 _ _ _ _ _ _ _ _ _ _ _ _ LM.out.1 LM.out.2.1 LM.out.2.2).mono ?_
    rintro e w' ⟨⟨r, rfl, -⟩, hw⟩
    rw [hw]
    clear hw
    cases r with
    | false =>
      go_wp2
      go_ret
      exact ⟨rfl, Below.refl _ _⟩
    | true =>
      by_cases k1 : 4096 < n0
      · go_wp2
        go_ret
        exact ⟨rfl, Below.refl _ _⟩
      by_cases k2 : 4096 < n1
      · go_wp2
        go_ret
        exact ⟨rfl, Below.refl _ _⟩
      have k3 : 4096 < n2 := by omega
      clear hsm
      go_wp2
      go_ret
      exact ⟨rfl, Below.refl _ _⟩

end Go.Proofs.Qxb6613227a
