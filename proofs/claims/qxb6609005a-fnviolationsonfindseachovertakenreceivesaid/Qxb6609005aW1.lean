import Derived.Test.Qxb6609005aClk
namespace Go.Proofs.Qxb6609005a
open Go.RowKit
set_option linter.unusedSimpArgs false
set_option linter.unusedVariables false

set_option maxHeartbeats 400000 in
theorem addNames_any (a0 : Option Addr) (n c0 : Nat) (nm : Nat → ByteArray) (w : World) (l0 : n ≤ maxLen)
    (h0 : Rd w a0 n (fun i => .string (nm i))) (hs : ∀ i, i < n → (nm i).size ≤ maxLen) :
    Calls Try.prog 8 #[.int .i64 0, .slice a0 n c0] w fun e w' => (∃ r : Int, e = .returned (.int .i64 r) ∧ 0 ≤ r ∧ (r ≤ 1048576 → 8 * (n : Int) ≤ r)) ∧ w' = w := by
  unfold maxLen at *
  have H0 : Hid (Rd w a0 n (fun i => .string (nm i))) := h0
  clear h0
  go_enter Try.func8, Try.ntmps8
  go_wp2
  go_loopg [0, 5] n (fun kx s t wr => ∃ (k : Nat) (z : Int), k ≤ n ∧ t = .int .i64 k ∧ s = .int .i64 z ∧ 0 ≤ z ∧ z ≤ 1048576 ∧ 8 * (k : Int) ≤ z ∧ n - k ≤ kx ∧ wr = w)
  case atStart => exact ⟨0, 0, Nat.zero_le _, rfl, rfl, by omega, by omega, by omega, by omega, rfl⟩
  case round =>
    obtain ⟨k, z, hk, rfl, rfl, hz0, hz1, hz2, hgh, rfl⟩ := hrel
    by_cases hlt : k < n
    · rcases H0.out with e0 | ⟨b0, o0, ha0, hb0, hc0⟩
      · omega
      have d0 := hc0 k hlt
      have s0 := hs k hlt
      clear hc0 hs
      subst ha0
      go_wp2
      · go_ret
        exact ⟨⟨1048577, rfl, by omega, by omega⟩, rfl⟩
      · go_ret
        exact ⟨⟨_, rfl, by omega, by omega⟩, rfl⟩
      · go_roundg (n - (k + 1))
        case measure => omega
        case rel => exact ⟨k + 1, _, by omega, by go_num, rfl, by omega, by omega, by omega, Nat.le_refl _, rfl⟩
    · go_wp2
      go_ret
      exact ⟨⟨z, rfl, by omega, fun _ => by omega⟩, rfl⟩

set_option maxHeartbeats 400000 in
theorem addEvent_any (t : Int) (host : ByteArray) (lam : Int) (z : Bool) (own nn : Int) (a : Option Addr) (len cap : Nat) (w : World) (ht : 0 ≤ t) (ht2 : t ≤ 1048576) (lh : host.size ≤ maxLen) (ll : len ≤ maxLen) :
    Calls Try.prog 9 #[.int .i64 t, .agg #[.string host, .int .u64 lam, .bool z, .int .u32 own, .int .u32 nn, .slice a len cap]] w fun e w' =>
      (∃ r : Int, e = .returned (.int .i64 r) ∧ 0 ≤ r ∧ (r ≤ 1048576 → 8 * (len : Int) ≤ r)) ∧ ∃ o, w' = w.alloc o := by
  unfold maxLen at *
  go_enter Try.func9, Try.ntmps9
  go_wp2
  all_goals
    go_ret
    first
      | exact ⟨⟨1048577, rfl, by omega, by omega⟩, _, rfl⟩
      | exact ⟨⟨_, rfl, by omega, fun _ => by omega⟩, _, rfl⟩

/-- the bytes of one name before another's -/
def ltB (a b : ByteArray) : Bool := Op.bytesLess a.toList b.toList

set_option maxHeartbeats 400000 in
theorem namesSorted_any (a0 : Option Addr) (n c0 : Nat) (nm : Nat → ByteArray) (w : World) (hn : n ≤ 131072) (h0 : Rd w a0 n (fun i => .string (nm i))) :
    Calls Try.prog 10 #[.slice a0 n c0] w fun e w' => Says e (fun r => r = true → ∀ i, i + 1 < n → ltB (nm i) (nm (i + 1)) = true) ∧ ∃ m, w' = w.drewN m := by
  have H0 : Hid (Rd w a0 n (fun i => .string (nm i))) := h0
  clear h0
  go_enter Try.func10, Try.ntmps10
  go_wp2
  go_loopg [3] n (fun kx s wr => ∃ k : Nat, 1 ≤ k ∧ (k ≤ n ∨ k = 1) ∧ s = .int .i64 k ∧ n - k ≤ kx ∧ Hid (∀ i, i + 1 < k → ltB (nm i) (nm (i + 1)) = true) ∧ ∃ m, wr = w.drewN m)
  case atStart => exact ⟨1, Nat.le_refl _, .inr rfl, rfl, by omega, (fun i hi => by omega : ∀ i, i + 1 < 1 → ltB (nm i) (nm (i + 1)) = true), 0, rfl⟩
  case round =>
    obtain ⟨k, hk1, hk, rfl, hgh, hA, m, rfl⟩ := hrel
    by_cases hlt : k < n
    · rcases H0.out with e0 | ⟨b0, o0, ha0, hb0, hc0⟩
      · omega
      have d0 := hc0 (k - 1) (by omega)
      have d1 := hc0 k hlt
      have i0 : IntKind.i64.wrap ((k : Int) - 1) = ((k - 1 : Nat) : Int) := by rw [IntKind.wrap_i64]; omega
      have i1 : k - 1 < n := by omega
      generalize hj : k - 1 = j at *
      have HJ : Hid (k - 1 = j) := hj
      clear hj hc0
      subst ha0
      cases hT : ltB (nm j) (nm k) with
      | false =>
        have hT' : Op.bytesLess (nm j).toList (nm k).toList = false := hT
        clear hT
        go_wp2
        go_quiet (fail)
        go_wp2
        go_ret
        exact ⟨⟨false, rfl, (fun h => by cases h)⟩, by first | exact ⟨_, rfl⟩ | (simp only [World.drewN_drewN]; exact ⟨_, rfl⟩)⟩
      | true =>
        have hT' : Op.bytesLess (nm j).toList (nm k).toList = true := hT
        have HT : Hid (ltB (nm j) (nm k) = true) := hT
        clear hT
        go_wp2
        go_quiet (fail)
        go_wp2
        go_roundg (n - (k + 1))
        case measure => omega
        case rel =>
          refine ⟨k + 1, by omega, .inl (by omega), by go_num, Nat.le_refl _, ?_, by first | exact ⟨_, rfl⟩ | (simp only [World.drewN_drewN]; exact ⟨_, rfl⟩)⟩
          have hA' : ∀ i, i + 1 < k + 1 → ltB (nm i) (nm (i + 1)) = true := by
            intro i hi
            by_cases e : i + 1 = k
            · have : i = j := by have := HJ.out; omega
              rw [e, this]; exact HT.out
            · exact hA.out i (by omega)
          exact hA'
    · go_wp2
      go_ret
      exact ⟨⟨true, rfl, fun _ i hi => hA.out i (by omega)⟩, _, rfl⟩

theorem toList_yes {a b : ByteArray} (h : (a.toList == b.toList) = true) : a = b := by
  have h2 : a.toList = b.toList := by simpa using h
  rw [ByteArray.toList_eq, ByteArray.toList_eq] at h2
  obtain ⟨⟨x⟩⟩ := a
  obtain ⟨⟨y⟩⟩ := b
  simp at h2
  rw [h2]
theorem toList_no {a b : ByteArray} (h : (a.toList == b.toList) = false) : a ≠ b := by
  intro e; subst e; simp at h

set_option maxHeartbeats 400000 in
theorem indexOf_any (a0 : Option Addr) (n c0 : Nat) (nm : Nat → ByteArray) (s : ByteArray) (w : World) (hn : n ≤ 131072) (h0 : Rd w a0 n (fun i => .string (nm i))) (hd : Distinct nm n) :
    Calls Try.prog 30 #[.slice a0 n c0, .string s] w fun e w' => ((∃ i, idxOf nm s n = some i ∧ e = .returned (.int .i64 (i : Nat))) ∨ (idxOf nm s n = none ∧ e = .returned (.int .i64 (-1)))) ∧ w' = w := by
  have H0 : Hid (Rd w a0 n (fun i => .string (nm i))) := h0
  have HD : Hid (Distinct nm n) := hd
  clear h0 hd
  go_enter Try.func30, Try.ntmps30
  go_wp2
  go_loopg [5] n (fun kx s' wr => ∃ k : Nat, k ≤ n ∧ s' = .int .i64 k ∧ n - k ≤ kx ∧ Hid (∀ i, i < k → nm i ≠ s) ∧ wr = w)
  case atStart => exact ⟨0, Nat.zero_le _, rfl, by omega, (fun i hi => by omega : ∀ i, i < 0 → nm i ≠ s), rfl⟩
  case round =>
    obtain ⟨k, hk, rfl, hgh, hA, rfl⟩ := hrel
    by_cases hlt : k < n
    · rcases H0.out with e0 | ⟨b0, o0, ha0, hb0, hc0⟩
      · omega
      have d0 := hc0 k hlt
      clear hc0
      subst ha0
      go_wp2
      · have hq : ((nm k).toList == s.toList) = true := by assumption
        go_ret
        exact ⟨.inl ⟨k, idxOf_at HD.out hlt (toList_yes hq), rfl⟩, rfl⟩
      · have hq : ((nm k).toList == s.toList) = false := by assumption
        have hA' : Hid (∀ i, i < k + 1 → nm i ≠ s) := by
          intro i hi
          by_cases e : i = k
          · subst e; exact toList_no hq
          · exact hA.out i (by omega)
        go_roundg (n - (k + 1))
        case measure => omega
        case rel => exact ⟨k + 1, by omega, by go_num, Nat.le_refl _, hA', rfl⟩
    · go_wp2
      go_ret
      exact ⟨.inr ⟨idxOf_none_of (fun i hi => hA.out i (by omega)), rfl⟩, rfl⟩

/-- what a valid event clock is -/
def ClockOk (k : Nat) (z : Bool) (own : Int) (len : Nat) (hs cn : Nat → Int) : Prop :=
  z = true ∨ (own < k ∧ ∀ j, j < len → hs j < k ∧ hs j ≠ own ∧ cn j ≠ 0 ∧ (0 < j → hs (j - 1) < hs j))

theorem wrap32_i64 {x : Int} (h0 : 0 ≤ x) (h1 : x < 4294967296) : IntKind.i64.wrap x = x := by rw [IntKind.wrap_i64]; omega

set_option maxHeartbeats 1000000 in
theorem validClock_any (k : Nat) (host : ByteArray) (lam : Int) (z : Bool) (own nn : Int) (a : Option Addr) (len cap : Nat) (hs cn : Nat → Int) (w : World) (hk : k ≤ 131072) (hl : len ≤ 131072)
    (hkn : KN w a len hs cn) (ho : 0 ≤ own ∧ own < 4294967296) (hh : ∀ j, j < len → 0 ≤ hs j ∧ hs j < 4294967296) :
    Calls Try.prog 11 #[.int .i64 k, .agg #[.string host, .int .u64 lam, .bool z, .int .u32 own, .int .u32 nn, .slice a len cap]] w fun e w' =>
      Says e (fun r => r = true → ClockOk k z own len hs cn) ∧ ∃ o, w' = w.alloc o := by
  obtain ⟨ho0, ho1⟩ := ho
  have hw0 := wrap32_i64 ho0 ho1
  have HN : Hid (KN w a len hs cn) := hkn
  have HH : Hid (∀ j, j < len → 0 ≤ hs j ∧ hs j < 4294967296) := hh
  clear hkn hh
  cases z with
  | true =>
    go_enter Try.func11, Try.ntmps11
    go_wp2
    go_ret
    exact ⟨⟨true, rfl, fun _ => .inl rfl⟩, _, rfl⟩
  | false =>
    by_cases hok : own < k
    · go_enter Try.func11, Try.ntmps11
      go_wp2
      generalize hW : w.alloc (.cells #[.string host, .int .u64 lam, .bool false, .int .u32 own, .int .u32 nn, .slice a len cap] 27) = W at *
      have HB : Hid (Below w.heap.size w W) := by rw [← hW]; exact (Below.refl _ _).alloc (Nat.le_refl _) _
      have HO : Hid (∃ o, W = w.alloc o) := ⟨_, hW.symm⟩
      have f2 : W.cell? ⟨w.heap.size, 2, none⟩ = some (.bool false) := by rw [← hW]; simp
      have f3 : W.cell? ⟨w.heap.size, 3, none⟩ = some (.int .u32 own) := by rw [← hW]; simp
      have f5 : W.cell? ⟨w.heap.size, 5, none⟩ = some (.slice a len cap) := by rw [← hW]; simp
      clear hW
      go_loopg [5] len (fun kx s wr => ∃ j : Nat, j ≤ len ∧ s = .int .i64 j ∧ len - j ≤ kx ∧ Hid (∀ t, t < j → hs t < k ∧ hs t ≠ own ∧ cn t ≠ 0 ∧ (0 < t → hs (t - 1) < hs t)) ∧ wr = W)
      case atStart => exact ⟨0, Nat.zero_le _, rfl, by omega, (fun t ht => by omega : ∀ t, t < 0 → hs t < k ∧ hs t ≠ own ∧ cn t ≠ 0 ∧ (0 < t → hs (t - 1) < hs t)), rfl⟩
      case round =>
        obtain ⟨j, hj, rfl, hgj, hA, rfl⟩ := hrel
        by_cases hlt : j < len
        · rcases HN.out with e0 | ⟨b0, o0, ha0, hb0, hc0⟩
          · omega
          obtain ⟨d0, d1⟩ := hc0 j hlt
          rw [← HB.out.cell hb0] at d0 d1
          obtain ⟨hj0, hj1⟩ := HH.out j hlt
          have hwj := wrap32_i64 hj0 hj1
          subst ha0
          by_cases q1 : hs j < k
          · cases q2 : (hs j == own) with
            | true =>
              go_wp2
              go_ret
              exact ⟨⟨false, rfl, (fun h => by cases h)⟩, HO.out⟩
            | false =>
              cases q3 : (cn j == 0) with
              | true =>
                go_wp2
                go_ret
                exact ⟨⟨false, rfl, (fun h => by cases h)⟩, HO.out⟩
              | false =>
                by_cases hj00 : 0 < j
                · obtain ⟨p0, -⟩ := hc0 (j - 1) (by omega)
                  rw [← HB.out.cell hb0] at p0
                  have i0 : IntKind.i64.wrap ((j : Int) - 1) = ((j - 1 : Nat) : Int) := by rw [IntKind.wrap_i64]; omega
                  have i1 : j - 1 < len := by omega
                  have HJ : Hid (∀ x, x = j - 1 → x + 1 = j) := fun x hx => by omega
                  by_cases q4 : hs (j - 1) < hs j
                  · have hA' : Hid (∀ t, t < j + 1 → hs t < k ∧ hs t ≠ own ∧ cn t ≠ 0 ∧ (0 < t → hs (t - 1) < hs t)) := by
                      intro t ht
                      by_cases e : t = j
                      · subst e; exact ⟨q1, by simpa using q2, by simpa using q3, fun _ => q4⟩
                      · exact hA.out t (by omega)
                    clear hc0
                    go_wp2
                    go_roundg (len - (j + 1))
                    case measure => omega
                    case rel => exact ⟨j + 1, by omega, by go_num, Nat.le_refl _, hA', rfl⟩
                  · clear hc0
                    go_wp2
                    go_ret
                    exact ⟨⟨false, rfl, (fun h => by cases h)⟩, HO.out⟩
                · have hA' : Hid (∀ t, t < j + 1 → hs t < k ∧ hs t ≠ own ∧ cn t ≠ 0 ∧ (0 < t → hs (t - 1) < hs t)) := by
                    intro t ht
                    by_cases e : t = j
                    · subst e; exact ⟨q1, by simpa using q2, by simpa using q3, fun h => absurd h hj00⟩
                    · exact hA.out t (by omega)
                  clear hc0
                  go_wp2
                  go_roundg (len - (j + 1))
                  case measure => omega
                  case rel => exact ⟨j + 1, by omega, by go_num, Nat.le_refl _, hA', rfl⟩
          · go_wp2
            go_ret
            exact ⟨⟨false, rfl, (fun h => by cases h)⟩, HO.out⟩
        · go_wp2
          go_ret
          exact ⟨⟨true, rfl, fun _ => .inr ⟨hok, fun t ht => hA.out t (by omega)⟩⟩, HO.out⟩
    · go_enter Try.func11, Try.ntmps11
      go_wp2
      go_ret
      exact ⟨⟨false, rfl, (fun h => by cases h)⟩, _, rfl⟩

set_option maxRecDepth 100000 in
set_option maxHeartbeats 1000000 in
theorem zzBytes16 (a0 : Option Addr) (n0 c0 : Nat) (nm : Nat → ByteArray) (h1 h2 h3 : ByteArray) (l1 l2 l3 : Int) (z1 z2 z3 : Bool) (o1 o2 o3 n1 n2 n3 : Int) (a1 a2 a3 : Option Addr) (k1 d1 k2 d2 k3 d3 : Nat) (w : World)
    (h0 : Rd w a0 n0 (fun i => .string (nm i))) (hs : ∀ i, i < n0 → (nm i).size ≤ maxLen) (b0 : n0 ≤ maxLen) (b1 : k1 ≤ maxLen) (b2 : k2 ≤ maxLen) (b3 : k3 ≤ maxLen) (g1 : h1.size ≤ maxLen) (g2 : h2.size ≤ maxLen) (g3 : h3.size ≤ maxLen) :
    Calls Try.prog 16 #[.slice a0 n0 c0, .agg #[.string h1, .int .u64 l1, .bool z1, .int .u32 o1, .int .u32 n1, .slice a1 k1 d1], .agg #[.string h2, .int .u64 l2, .bool z2, .int .u32 o2, .int .u32 n2, .slice a2 k2 d2],
        .agg #[.string h3, .int .u64 l3, .bool z3, .int .u32 o3, .int .u32 n3, .slice a3 k3 d3]] w fun e w' => Says e (fun _ => True) ∧ Below w.heap.size w w' := by
  unfold maxLen at *
  have H0 : Hid (Rd w a0 n0 (fun i => .string (nm i))) := h0
  clear h0
  have HB : Hid (∀ x y z, Below w.heap.size w (((w.alloc x).alloc y).alloc z)) := fun x y z => (((Below.refl _ _).alloc (Nat.le_refl _) _).alloc (by simp) _).alloc (by simp; omega) _
  by_cases hbig : n0 ≤ 1048576
  · go_enter Try.func16, Try.ntmps16
    go_wp2
    go_loopg [9, 10] n0 (fun kx s t wr => ∃ (k : Nat) (z : Int), k ≤ n0 ∧ t = .int .i64 k ∧ s = .int .i64 z ∧ 0 ≤ z ∧ z ≤ 1048576 ∧ n0 - k ≤ kx ∧ wr = ((w.alloc (.cells #[.string h1, .int .u64 l1, .bool z1, .int .u32 o1, .int .u32 n1, .slice a1 k1 d1] 27)).alloc (.cells #[.string h2, .int .u64 l2, .bool z2, .int .u32 o2, .int .u32 n2, .slice a2 k2 d2] 27)).alloc (.cells #[.string h3, .int .u64 l3, .bool z3, .int .u32 o3, .int .u32 n3, .slice a3 k3 d3] 27))
    case atStart => exact ⟨0, _, Nat.zero_le _, rfl, rfl, by omega, by omega, by omega, rfl⟩
    case round =>
      obtain ⟨k, z, hk, rfl, rfl, hz0, hz1, hgh, hw⟩ := hrel
      rw [hw]
      clear hw
      by_cases hlt : k < n0
      · rcases H0.out with e0 | ⟨b0', o0, ha0, hb0, hc0⟩
        · omega
        have d0 := hc0 k hlt
        have s0 := hs k hlt
        have hb0' : b0' < w.heap.size + 1 := by omega
        have hb0'' : b0' < w.heap.size + 1 + 1 := by omega
        clear hc0 hs
        subst ha0
        go_wp2
        · go_ret
          exact ⟨⟨false, rfl, trivial⟩, HB.out _ _ _⟩
        · go_ret
          exact ⟨⟨false, rfl, trivial⟩, HB.out _ _ _⟩
        · go_roundg (n0 - (k + 1))
          case measure => omega
          case rel => exact ⟨k + 1, _, by omega, by go_num, rfl, by omega, by omega, Nat.le_refl _, rfl⟩
      · go_wp2
        all_goals (go_ret; exact ⟨⟨_, rfl, trivial⟩, HB.out _ _ _⟩)
  · go_enter Try.func16, Try.ntmps16
    go_wp2
    go_ret
    exact ⟨⟨false, rfl, trivial⟩, HB.out _ _ _⟩

end Go.Proofs.Qxb6609005a
