import Derived.Test.Qxb6609005aC1
import Derived.BigQuiet
namespace Go.Proofs.Qxb6609005a
open Go.RowKit Go.WideMaps Go.Maps Go.Sort
set_option linter.unusedSimpArgs false
set_option linter.unusedVariables false
set_option linter.unusedSectionVars false

set_option maxRecDepth 100000 in
set_option maxHeartbeats 2000000 in
theorem zzBytes26 (a0 : Option Addr) (n0 c0 : Nat) (nm : Nat → ByteArray) (a1 : Option Addr) (m c1 : Nat) (ev : Nat → Ev) (w : World) (h0 : Rd w a0 n0 (fun i => .string (nm i))) (hs : ∀ i, i < n0 → (nm i).size ≤ maxLen) (l0 : n0 ≤ maxLen) (h1 : EvsAt w a1 m ev) (hm : m ≤ maxLen) :
    Calls Try.prog 26 #[.slice a0 n0 c0, .slice a1 m c1] w fun e w' => Says e (fun _ => True) ∧ w' = w := by
  unfold maxLen at *
  have H0 : Hid (Rd w a0 n0 (fun i => .string (nm i))) := h0
  have H1 : Hid (EvsAt w a1 m ev) := h1
  have HS : Hid (∀ i, i < n0 → (nm i).size ≤ 9223372036854775807) := hs
  clear h0 h1 hs
  by_cases hbig : n0 ≤ 1048576
  · go_enter Try.func26, Try.ntmps26
    go_wp2
    go_loopg [5, 6] n0 (fun kx s t wr => ∃ (k : Nat) (z : Int), k ≤ n0 ∧ t = .int .i64 k ∧ s = .int .i64 z ∧ 0 ≤ z ∧ z ≤ 1048576 ∧ n0 - k ≤ kx ∧ wr = w)
    case atStart => exact ⟨0, _, Nat.zero_le _, rfl, rfl, by omega, by omega, by omega, rfl⟩
    case round =>
      obtain ⟨k, z, hk, rfl, rfl, hz0, hz1, hgh, rfl⟩ := hrel
      by_cases hlt : k < n0
      · rcases H0.out with e0 | ⟨b0', o0, ha0, hb0, hc0⟩
        · omega
        have d0 := hc0 k hlt
        have s0 := HS.out k hlt
        clear hc0
        subst ha0
        go_wp2
        · go_ret
          exact ⟨⟨false, rfl, trivial⟩, rfl⟩
        · go_ret
          exact ⟨⟨false, rfl, trivial⟩, rfl⟩
        · go_roundg (n0 - (k + 1))
          case measure => omega
          case rel => exact ⟨k + 1, _, by omega, by go_num, rfl, by omega, by omega, Nat.le_refl _, rfl⟩
      · by_cases hbm : m ≤ 1048576
        · by_cases hzm : z + m ≤ 1048576
          · go_wp2
            go_loopg [5, 7] m (fun kx s t w2 => ∃ (k : Nat) (z : Int), k ≤ m ∧ t = .int .i64 k ∧ s = .int .i64 z ∧ 0 ≤ z ∧ z ≤ 1048576 ∧ m - k ≤ kx ∧ w2 = wr)
            case atStart => exact ⟨0, _, Nat.zero_le _, rfl, rfl, by omega, by omega, by omega, rfl⟩
            case round =>
              obtain ⟨k, z, hk, rfl, rfl, hz0, hz1, hgh, rfl⟩ := hrel
              by_cases hlt : k < m
              · obtain ⟨b1, o1, ha1, X⟩ := H1.out.at hlt
                have hra := H1.out.raw k hlt
                obtain ⟨x0, x1, x2, x3, x4, x5, x6⟩ := X
                have hlh := hra.host
                have hll := hra.l
                unfold maxLen at *
                clear hra
                generalize ev k = ek at *
                subst ha1
                go_wp2
                all_goals first
                  | (go_ret; exact ⟨⟨false, rfl, trivial⟩, rfl⟩)
                  | (go_roundg (m - (k + 1))
                     case measure => omega
                     case rel => exact ⟨k + 1, _, by omega, by go_num, rfl, by omega, by omega, Nat.le_refl _, rfl⟩)
              · go_wp2
                go_ret
                exact ⟨⟨_, rfl, trivial⟩, rfl⟩
          · go_wp2
            go_ret
            exact ⟨⟨_, rfl, trivial⟩, rfl⟩
        · go_wp2
          go_ret
          exact ⟨⟨_, rfl, trivial⟩, rfl⟩
  · go_enter Try.func26, Try.ntmps26
    go_wp2
    go_ret
    exact ⟨⟨false, rfl, trivial⟩, rfl⟩

set_option maxRecDepth 100000 in
set_option maxHeartbeats 2000000 in
theorem zzBytes17 (a0 : Option Addr) (n0 c0 : Nat) (nm : Nat → ByteArray) (a1 : Option Addr) (m c1 : Nat) (ev : Nat → Ev) (d : Int) (a3 : Option Addr) (n3 c3 : Nat) (w : World) (h0 : Rd w a0 n0 (fun i => .string (nm i))) (hs : ∀ i, i < n0 → (nm i).size ≤ maxLen) (l0 : n0 ≤ maxLen) (h1 : EvsAt w a1 m ev) (hm : m ≤ maxLen) (h3 : n3 ≤ maxLen) :
    Calls Try.prog 17 #[.slice a0 n0 c0, .slice a1 m c1, .int .u8 d, .slice a3 n3 c3] w fun e w' => Says e (fun _ => True) ∧ w' = w := by
  unfold maxLen at *
  have H0 : Hid (Rd w a0 n0 (fun i => .string (nm i))) := h0
  have H1 : Hid (EvsAt w a1 m ev) := h1
  have HS : Hid (∀ i, i < n0 → (nm i).size ≤ 9223372036854775807) := hs
  clear h0 h1 hs
  by_cases hbig : n0 ≤ 1048576
  · go_enter Try.func17, Try.ntmps17
    go_wp2
    go_loopg [9, 10] n0 (fun kx s t wr => ∃ (k : Nat) (z : Int), k ≤ n0 ∧ t = .int .i64 k ∧ s = .int .i64 z ∧ 0 ≤ z ∧ z ≤ 1048576 ∧ n0 - k ≤ kx ∧ wr = w)
    case atStart => exact ⟨0, _, Nat.zero_le _, rfl, rfl, by omega, by omega, by omega, rfl⟩
    case round =>
      obtain ⟨k, z, hk, rfl, rfl, hz0, hz1, hgh, rfl⟩ := hrel
      by_cases hlt : k < n0
      · rcases H0.out with e0 | ⟨b0', o0, ha0, hb0, hc0⟩
        · omega
        have d0 := hc0 k hlt
        have s0 := HS.out k hlt
        clear hc0
        subst ha0
        go_wp2
        · go_ret
          exact ⟨⟨false, rfl, trivial⟩, rfl⟩
        · go_ret
          exact ⟨⟨false, rfl, trivial⟩, rfl⟩
        · go_roundg (n0 - (k + 1))
          case measure => omega
          case rel => exact ⟨k + 1, _, by omega, by go_num, rfl, by omega, by omega, Nat.le_refl _, rfl⟩
      · by_cases hbm : m ≤ 1048576
        · by_cases hzm : z + m ≤ 1048576
          · go_wp2
            go_loopg [9, 11] m (fun kx s t w2 => ∃ (k : Nat) (z : Int), k ≤ m ∧ t = .int .i64 k ∧ s = .int .i64 z ∧ 0 ≤ z ∧ z ≤ 1048576 ∧ m - k ≤ kx ∧ w2 = wr)
            case atStart => exact ⟨0, _, Nat.zero_le _, rfl, rfl, by omega, by omega, by omega, rfl⟩
            case round =>
              obtain ⟨k, z, hk, rfl, rfl, hz0, hz1, hgh, rfl⟩ := hrel
              by_cases hlt : k < m
              · obtain ⟨b1, o1, ha1, X⟩ := H1.out.at hlt
                have hra := H1.out.raw k hlt
                obtain ⟨x0, x1, x2, x3, x4, x5, x6⟩ := X
                have hlh := hra.host
                have hll := hra.l
                unfold maxLen at *
                clear hra
                generalize ev k = ek at *
                subst ha1
                go_wp2
                all_goals first
                  | (go_ret; exact ⟨⟨false, rfl, trivial⟩, rfl⟩)
                  | (go_roundg (m - (k + 1))
                     case measure => omega
                     case rel => exact ⟨k + 1, _, by omega, by go_num, rfl, by omega, by omega, Nat.le_refl _, rfl⟩)
              · go_wp2
                all_goals (go_ret; exact ⟨⟨_, rfl, trivial⟩, rfl⟩)
          · go_wp2
            go_ret
            exact ⟨⟨_, rfl, trivial⟩, rfl⟩
        · go_wp2
          go_ret
          exact ⟨⟨_, rfl, trivial⟩, rfl⟩
  · go_enter Try.func17, Try.ntmps17
    go_wp2
    go_ret
    exact ⟨⟨false, rfl, trivial⟩, rfl⟩

end Go.Proofs.Qxb6609005a
