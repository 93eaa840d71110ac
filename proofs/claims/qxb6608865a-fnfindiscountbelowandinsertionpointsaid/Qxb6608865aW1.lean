import Derived.Test.Qxb6608865aMem
namespace Go.Proofs.Qxb6608865a
open Go.RowKit
set_option linter.unusedSimpArgs false
set_option linter.unusedVariables false

theorem info37 : (Try.prog.info? 37).map (fun i => (i.zero, i.size, i.bytes)) = some (some (.agg #[.int .u64 0, .int .u64 0, .int .u64 0]), 3, 24) := by kernel_rfl
theorem info23 : (Try.prog.info? 23).map (fun i => (i.zero, i.size, i.bytes)) = some (some (.int .u64 0), 1, 8) := by kernel_rfl

/-- one tag before another -/
def tlB (c1 n1 c2 n2 : Int) : Bool := if c1 = c2 then decide (n1 < n2) else decide (c1 < c2)

set_option maxHeartbeats 400000 in
theorem tagLess_any (c1 n1 c2 n2 : Int) (w : World) :
    Calls Try.prog 9 #[.int .u64 c1, .int .u64 n1, .int .u64 c2, .int .u64 n2] w fun e w' => e = .returned (.bool (tlB c1 n1 c2 n2)) ∧ w' = w := by
  by_cases h : c1 = c2
  · have hb : (c1 != c2) = false := by simp [h]
    have HT : Hid (tlB c1 n1 c2 n2 = decide (n1 < n2)) := by unfold tlB; rw [if_pos h]; rfl
    clear h
    go_enter Try.func9, Try.ntmps9
    go_wp2
    go_ret
    exact ⟨ret_bool HT.out.symm, rfl⟩
  · have hb : (c1 != c2) = true := by simp [h]
    have HT : Hid (tlB c1 n1 c2 n2 = decide (c1 < c2)) := by unfold tlB; rw [if_neg h]; rfl
    clear h
    go_enter Try.func9, Try.ntmps9
    go_wp2
    go_ret
    exact ⟨ret_bool HT.out.symm, rfl⟩

set_option maxHeartbeats 400000 in
theorem less_any (c1 n1 c2 n2 : Int) (w : World) :
    Calls Try.prog 12 #[.agg #[.int .u64 c1, .int .u64 n1], .agg #[.int .u64 c2, .int .u64 n2]] w fun e w' => e = .returned (.bool (tlB c1 n1 c2 n2)) ∧ ∃ o1 o2, w' = (w.alloc o1).alloc o2 := by
  by_cases h : c1 = c2
  · have hb : (c1 != c2) = false := by simp [h]
    have HT : Hid (tlB c1 n1 c2 n2 = decide (n1 < n2)) := by unfold tlB; rw [if_pos h]; rfl
    clear h
    go_enter Try.func12, Try.ntmps12
    go_wp2
    go_ret
    exact ⟨ret_bool HT.out.symm, _, _, rfl⟩
  · have hb : (c1 != c2) = true := by simp [h]
    have HT : Hid (tlB c1 n1 c2 n2 = decide (c1 < c2)) := by unfold tlB; rw [if_neg h]; rfl
    clear h
    go_enter Try.func12, Try.ntmps12
    go_wp2
    go_ret
    exact ⟨ret_bool HT.out.symm, _, _, rfl⟩

set_option maxHeartbeats 400000 in
theorem zzBytes5 (a0 a1 : Option Addr) (n0 c0 n1 c1 : Nat) (c nd : Int) (w : World) (l0 : n0 ≤ maxLen) (l1 : n1 ≤ maxLen) :
    Calls Try.prog 5 #[.slice a0 n0 c0, .slice a1 n1 c1, .int .u64 c, .int .u64 nd] w fun e w' => Says e (fun _ => True) ∧ w' = w := by
  unfold maxLen at *
  go_enter Try.func5, Try.ntmps5
  go_wp2
  all_goals (go_ret; exact ⟨⟨_, rfl, trivial⟩, rfl⟩)

set_option maxHeartbeats 400000 in
theorem zzBytes10 (a0 a1 : Option Addr) (n0 c0 n1 c1 : Nat) (w : World) (l0 : n0 ≤ maxLen) (l1 : n1 ≤ maxLen) :
    Calls Try.prog 10 #[.slice a0 n0 c0, .slice a1 n1 c1] w fun e w' => Says e (fun _ => True) ∧ w' = w := by
  unfold maxLen at *
  go_enter Try.func10, Try.ntmps10
  go_wp2
  all_goals (go_ret; exact ⟨⟨_, rfl, trivial⟩, rfl⟩)

set_option maxHeartbeats 400000 in
theorem sorted_any (a0 a1 : Option Addr) (n c0 c1 : Nat) (cs ns : Nat → Int) (w : World) (hn : n ≤ 65536)
    (h0 : Rd w a0 n (fun i => .int .u64 (cs i))) (h1 : Rd w a1 n (fun i => .int .u64 (ns i))) :
    Calls Try.prog 6 #[.slice a0 n c0, .slice a1 n c1] w fun e w' => Says e (fun r => r = true → ∀ i, i + 1 < n → tlB (cs i) (ns i) (cs (i + 1)) (ns (i + 1)) = true) ∧ ∃ m, w' = w.drewN m := by
  have H0 : Hid (Rd w a0 n (fun i => .int .u64 (cs i))) := h0
  have H1 : Hid (Rd w a1 n (fun i => .int .u64 (ns i))) := h1
  clear h0 h1
  go_enter Try.func6, Try.ntmps6
  go_wp2
  go_loopg [5] n (fun kx s wr => ∃ k : Nat, 1 ≤ k ∧ (k ≤ n ∨ k = 1) ∧ s = .int .i64 k ∧ n - k ≤ kx ∧ Hid (∀ i, i + 1 < k → tlB (cs i) (ns i) (cs (i + 1)) (ns (i + 1)) = true) ∧ ∃ m, wr = w.drewN m)
  case atStart => exact ⟨1, Nat.le_refl _, .inr rfl, rfl, by omega, (fun i hi => by omega : ∀ i, i + 1 < 1 → tlB (cs i) (ns i) (cs (i + 1)) (ns (i + 1)) = true), 0, rfl⟩
  case round =>
    obtain ⟨k, hk1, hk, rfl, hgh, hA, m, rfl⟩ := hrel
    by_cases hlt : k < n
    · rcases H0.out with e0 | ⟨b0, o0, ha0, hb0, hc0⟩
      · omega
      rcases H1.out with e0 | ⟨b1, o1, ha1, hb1, hc1⟩
      · omega
      have d0 := hc0 (k - 1) (by omega)
      have d1 := hc0 k hlt
      have d2 := hc1 (k - 1) (by omega)
      have d3 := hc1 k hlt
      have i0 : IntKind.i64.wrap ((k : Int) - 1) = ((k - 1 : Nat) : Int) := by rw [IntKind.wrap_i64]; omega
      have i1 : k - 1 < n := by omega
      generalize hj : k - 1 = j at *
      have HJ : Hid (k - 1 = j) := hj
      clear hj hc0 hc1
      subst ha0 ha1
      go_wp2
      go_quiet ((go_at_call 9; exact quiet_of2 ((tagLess_any _ _ _ _ _).mono fun _ _ ⟨h1, h2⟩ => ⟨h1, 0, h2⟩)))
      cases hT : tlB (cs j) (ns j) (cs k) (ns k) with
      | false =>
        go_wp2
        go_ret
        exact ⟨⟨false, rfl, (fun h => by cases h)⟩, by first | exact ⟨_, rfl⟩ | (simp only [World.drewN_drewN]; exact ⟨_, rfl⟩)⟩
      | true =>
        have HT : Hid (tlB (cs j) (ns j) (cs k) (ns k) = true) := hT
        go_wp2
        go_roundg (n - (k + 1))
        case measure => omega
        case rel =>
          refine ⟨k + 1, by omega, .inl (by omega), by go_num, Nat.le_refl _, ?_, by first | exact ⟨_, rfl⟩ | (simp only [World.drewN_drewN]; exact ⟨_, rfl⟩)⟩
          have hA' : ∀ i, i + 1 < k + 1 → tlB (cs i) (ns i) (cs (i + 1)) (ns (i + 1)) = true := by
            intro i hi
            by_cases e : i + 1 = k
            · have : i = j := by have := HJ.out; omega
              rw [e, this]; exact HT.out
            · exact hA.out i (by omega)
          exact hA'
    · go_wp2
      go_ret
      exact ⟨⟨true, rfl, fun _ i hi => hA.out i (by omega)⟩, _, rfl⟩

end Go.Proofs.Qxb6608865a
