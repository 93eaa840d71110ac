import Derived.Test.Qxb6613227aMem
namespace Go.Proofs.Qxb6613227a
open Go.RowKit
set_option linter.unusedSimpArgs false
set_option linter.unusedVariables false

/-- x is among the first n of f -/
def hasN (f : Nat → Nat) (x : Nat) : Nat → Bool
  | 0 => false
  | k + 1 => hasN f x k || decide (f k = x)
theorem hasN_iff (f : Nat → Nat) (x : Nat) : ∀ n, hasN f x n = true ↔ ∃ i, i < n ∧ f i = x
  | 0 => by simp [hasN]
  | k + 1 => by
    rw [hasN, Bool.or_eq_true, hasN_iff f x k, decide_eq_true_eq]
    constructor
    · rintro (⟨i, hi, e⟩ | e)
      · exact ⟨i, by omega, e⟩
      · exact ⟨k, by omega, e⟩
    · rintro ⟨i, hi, e⟩
      by_cases h : i = k
      · subst h; exact .inr e
      · exact .inl ⟨i, by omega, e⟩
theorem hasN_none {f : Nat → Nat} {x n : Nat} (h : ∀ i, i < n → f i ≠ x) : hasN f x n = false := by
  cases hh : hasN f x n with
  | false => rfl
  | true => obtain ⟨i, hi, e⟩ := (hasN_iff f x n).1 hh; exact absurd e (h i hi)

/-- does place x count -/
def cntB (m : Nat) (cf : Nat → Bool) (x : Nat) : Bool := decide (x < m) && cf x

set_option maxHeartbeats 400000 in
theorem zzBytes5 (a0 a1 a2 : Option Addr) (n0 c0 n1 c1 n2 c2 : Nat) (x c : Int) (w : World) (l0 : n0 ≤ maxLen) (l1 : n1 ≤ maxLen) (l2 : n2 ≤ maxLen) :
    Calls Try.prog 5 #[.slice a0 n0 c0, .slice a1 n1 c1, .slice a2 n2 c2, .int .i64 x, .int .i64 c] w fun e w' => Says e (fun _ => True) ∧ w' = w := by
  unfold maxLen at *
  go_enter Try.func5, Try.ntmps5
  go_wp2
  all_goals (go_ret; exact ⟨⟨_, rfl, trivial⟩, rfl⟩)

set_option maxHeartbeats 400000 in
theorem zzBytes13 (a0 a1 a2 : Option Addr) (n0 c0 n1 c1 n2 c2 : Nat) (x c : Int) (w : World) (l0 : n0 ≤ maxLen) (l1 : n1 ≤ maxLen) (l2 : n2 ≤ maxLen) :
    Calls Try.prog 13 #[.slice a0 n0 c0, .slice a1 n1 c1, .slice a2 n2 c2, .int .i64 x, .int .i64 c] w fun e w' => Says e (fun _ => True) ∧ w' = w := by
  unfold maxLen at *
  go_enter Try.func13, Try.ntmps13
  go_wp2
  all_goals (go_ret; exact ⟨⟨_, rfl, trivial⟩, rfl⟩)

set_option maxHeartbeats 400000 in
theorem idsOK_any (a : Option Addr) (n c : Nat) (f : Nat → Int) (w : World) (hn : n ≤ maxLen) (h0 : Rd w a n (fun i => .int .i64 (f i))) :
    Calls Try.prog 6 #[.slice a n c] w fun e w' => Says e (fun r => r = true → ∀ i, i < n → 0 ≤ f i ∧ f i < 4096) ∧ ∃ m, w' = w.drewN m := by
  have H0 : Hid (Rd w a n (fun i => .int .i64 (f i))) := h0
  clear h0
  unfold maxLen at hn
  go_enter Try.func6, Try.ntmps6
  go_wp2
  go_loopg [3] n (fun kx s wr => ∃ k : Nat, k ≤ n ∧ s = .int .i64 k ∧ n - k ≤ kx ∧ Hid (∀ i, i < k → 0 ≤ f i ∧ f i < 4096) ∧ ∃ m, wr = w.drewN m)
  case atStart => exact ⟨0, Nat.zero_le _, rfl, by omega, (fun i hi => by omega : ∀ i, i < 0 → 0 ≤ f i ∧ f i < 4096), 0, rfl⟩
  case round =>
    obtain ⟨k, hk, rfl, hgh, hA, m, rfl⟩ := hrel
    by_cases hlt : k < n
    · rcases H0.out with e0 | ⟨b0, o0, ha0, hb0, hc0⟩
      · omega
      have d0 := hc0 k hlt
      subst ha0
      clear hc0
      by_cases h1 : f k < 0
      · go_wp2
        try go_ret
        try exact ⟨⟨_, rfl, (fun h => by cases h)⟩, _, rfl⟩
      · by_cases h2 : f k ≥ 4096
        · go_wp2
          try go_ret
          try exact ⟨⟨_, rfl, (fun h => by cases h)⟩, _, rfl⟩
        · go_wp2
          go_roundg (n - (k + 1))
          case measure => omega
          case rel =>
            refine ⟨k + 1, by omega, by go_num, Nat.le_refl _, ?_, _, rfl⟩
            have hA' : ∀ i, i < k + 1 → 0 ≤ f i ∧ f i < 4096 := by
              intro i hi
              by_cases e : i = k
              · subst e; omega
              · exact hA.out i (by omega)
            exact hA'
    · have : k = n := by omega
      subst this
      go_wp2
      go_ret
      exact ⟨⟨_, rfl, fun _ => hA.out⟩, _, rfl⟩

set_option maxHeartbeats 400000 in
theorem max_any (a : Option Addr) (n c : Nat) (f : Nat → Int) (M : Int) (w : World) (hn : n ≤ maxLen) (h0 : Rd w a n (fun i => .int .i64 (f i))) (hf : ∀ i, i < n → 0 ≤ f i ∧ f i < 4096) (hM : 0 ≤ M ∧ M < 4096) :
    Calls Try.prog 8 #[.slice a n c, .int .i64 M] w fun e w' => SaysI e (fun r => M ≤ r ∧ r < 4096 ∧ ∀ i, i < n → f i ≤ r) ∧ ∃ m, w' = w.drewN m := by
  have H0 : Hid (Rd w a n (fun i => .int .i64 (f i))) := h0
  have HF : Hid (∀ i, i < n → 0 ≤ f i ∧ f i < 4096) := hf
  clear h0 hf
  unfold maxLen at hn
  go_enter Try.func8, Try.ntmps8
  go_wp2
  go_loopg [5, 1] n (fun kx s t wr => ∃ k : Nat, ∃ q : Int, k ≤ n ∧ s = .int .i64 k ∧ t = .int .i64 q ∧ M ≤ q ∧ q < 4096 ∧ n - k ≤ kx ∧ Hid (∀ i, i < k → f i ≤ q) ∧ ∃ m, wr = w.drewN m)
  case atStart => exact ⟨0, M, Nat.zero_le _, rfl, rfl, by omega, by omega, by omega, (fun i hi => by omega : ∀ i, i < 0 → f i ≤ M), 0, rfl⟩
  case round =>
    obtain ⟨k, q, hk, rfl, rfl, hq, hq2, hgh, hA, m, rfl⟩ := hrel
    by_cases hlt : k < n
    · rcases H0.out with e0 | ⟨b0, o0, ha0, hb0, hc0⟩
      · omega
      have d0 := hc0 k hlt
      have d1 := HF.out k hlt
      subst ha0
      clear hc0
      by_cases h1 : f k > q
      · go_wp2
        go_roundg (n - (k + 1))
        case measure => omega
        case rel =>
          refine ⟨k + 1, f k, by omega, by go_num, rfl, by omega, by omega, Nat.le_refl _, ?_, _, rfl⟩
          have hA' : ∀ i, i < k + 1 → f i ≤ f k := by
            intro i hi
            by_cases e : i = k
            · subst e; omega
            · have := hA.out i (by omega); omega
          exact hA'
      · go_wp2
        go_roundg (n - (k + 1))
        case measure => omega
        case rel =>
          refine ⟨k + 1, q, by omega, by go_num, rfl, by omega, by omega, Nat.le_refl _, ?_, _, rfl⟩
          have hA' : ∀ i, i < k + 1 → f i ≤ q := by
            intro i hi
            by_cases e : i = k
            · subst e; omega
            · have := hA.out i (by omega); omega
          exact hA'
    · have : k = n := by omega
      subst this
      go_wp2
      go_ret
      exact ⟨⟨_, rfl, hq, hq2, hA.out⟩, _, rfl⟩

set_option maxHeartbeats 400000 in
theorem counted_any (a : Option Addr) (n c : Nat) (cf : Nat → Bool) (x : Nat) (w : World) (hn : n ≤ maxLen) (hx : x < 4097) (h0 : Rd w a n (fun i => .bool (cf i))) :
    Calls Try.prog 11 #[.slice a n c, .int .i64 x] w fun e w' => e = .returned (.bool (cntB n cf x)) ∧ ∃ m, w' = w.drewN m := by
  unfold maxLen at hn
  by_cases hlt : x < n
  · rcases h0 with e0 | ⟨b0, o0, ha0, hb0, hc0⟩
    · omega
    have d0 := hc0 x hlt
    subst ha0
    clear hc0
    have HT : Hid (cntB n cf x = cf x) := (by unfold cntB; simp [hlt] : cntB n cf x = cf x)
    go_enter Try.func11, Try.ntmps11
    go_wp2
    go_ret
    exact ⟨ret_bool HT.out.symm, 0, rfl⟩
  · have HT : Hid (cntB n cf x = false) := (by unfold cntB; simp [hlt] : cntB n cf x = false)
    clear h0
    go_enter Try.func11, Try.ntmps11
    go_wp2
    go_ret
    exact ⟨ret_bool HT.out.symm, 0, rfl⟩

set_option maxHeartbeats 400000 in
theorem has_any (a : Option Addr) (n c : Nat) (f : Nat → Nat) (x : Nat) (w : World) (hn : n ≤ maxLen) (h0 : Rd w a n (fun i => .int .i64 (f i : Int))) :
    Calls Try.prog 12 #[.slice a n c, .int .i64 (x : Int)] w fun e w' => e = .returned (.bool (hasN f x n)) ∧ ∃ m, w' = w.drewN m := by
  have H0 : Hid (Rd w a n (fun i => .int .i64 (f i : Int))) := h0
  clear h0
  unfold maxLen at hn
  go_enter Try.func12, Try.ntmps12
  go_wp2
  go_loopg [5] n (fun kx s wr => ∃ k : Nat, k ≤ n ∧ s = .int .i64 k ∧ n - k ≤ kx ∧ Hid (∀ i, i < k → f i ≠ x) ∧ ∃ m, wr = w.drewN m)
  case atStart => exact ⟨0, Nat.zero_le _, rfl, by omega, (fun i hi => by omega : ∀ i, i < 0 → f i ≠ x), 0, rfl⟩
  case round =>
    obtain ⟨k, hk, rfl, hgh, hA, m, rfl⟩ := hrel
    by_cases hlt : k < n
    · rcases H0.out with e0 | ⟨b0, o0, ha0, hb0, hc0⟩
      · omega
      have d0 := hc0 k hlt
      subst ha0
      clear hc0
      by_cases h1 : f k = x
      · have h1i : (f k : Int) = (x : Int) := by omega
        have HT : Hid (hasN f x n = true) := (hasN_iff f x n).2 ⟨k, hlt, h1⟩
        clear h1
        go_wp2
        go_ret
        exact ⟨ret_bool HT.out.symm, _, rfl⟩
      · have h1i : ¬ (f k : Int) = (x : Int) := by omega
        have HN : Hid (f k ≠ x) := h1
        clear h1
        go_wp2
        go_roundg (n - (k + 1))
        case measure => omega
        case rel =>
          refine ⟨k + 1, by omega, by go_num, Nat.le_refl _, ?_, _, rfl⟩
          have hA' : ∀ i, i < k + 1 → f i ≠ x := by
            intro i hi
            by_cases e : i = k
            · subst e; exact HN.out
            · exact hA.out i (by omega)
          exact hA'
    · have : k = n := by omega
      subst this
      go_wp2
      go_ret
      exact ⟨ret_bool (hasN_none hA.out).symm, _, rfl⟩

end Go.Proofs.Qxb6613227a
