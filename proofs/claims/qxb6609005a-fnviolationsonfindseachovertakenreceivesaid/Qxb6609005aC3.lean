import Derived.Test.Qxb6609005aC1
import Derived.Test.Qxb6609005aA2
import Derived.BigQuiet
namespace Go.Proofs.Qxb6609005a
open Go.RowKit Go.WideMaps Go.Maps Go.Sort
set_option linter.unusedSimpArgs false
set_option linter.unusedVariables false
set_option linter.unusedSectionVars false

/-- the host's event of a place, or nil -/
def pk (m : Nat) (E : Nat → Nat) (x : Int) : Value := .pointer (if 0 ≤ x ∧ x < m then some ⟨E x.toNat, 0, none⟩ else none)

set_option maxHeartbeats 1000000 in
theorem pick_any (ho : Option Addr) (m c : Nat) (E : Nat → Nat) (x : Int) (w : World) (hm : m ≤ 1024) (h : Rd w ho m (fun i => .pointer (some ⟨E i, 0, none⟩))) :
    Calls Try.prog 21 #[.slice ho m c, .int .i64 x] w fun e w' => e = .returned (pk m E x) ∧ w' = w := by
  by_cases h1 : 0 ≤ x
  · by_cases h2 : x < m
    · rcases h with e0 | ⟨b, o, rfl, hb, hc⟩
      · omega
      obtain ⟨k, rfl⟩ := Int.eq_ofNat_of_zero_le h1
      have hk : k < m := by omega
      have d := hc k hk
      clear hc
      have hr : pk m E (k : Int) = .pointer (some ⟨E k, 0, none⟩) := by simp [pk, hk]
      rw [hr]
      clear hr
      go_enter Try.func21, Try.ntmps21
      go_wp2
      go_ret
      exact ⟨rfl, rfl⟩
    · have hr : pk m E x = .pointer none := by unfold pk; rw [if_neg (by omega)]
      rw [hr]
      clear hr
      go_enter Try.func21, Try.ntmps21
      go_wp2
      go_ret
      exact ⟨rfl, rfl⟩
  · have hr : pk m E x = .pointer none := by unfold pk; rw [if_neg (by omega)]
    rw [hr]
    clear hr
    go_enter Try.func21, Try.ntmps21
    go_wp2
    go_ret
    exact ⟨rfl, rfl⟩

set_option maxRecDepth 100000 in
set_option maxHeartbeats 4000000 in
theorem keyLess_any (e1 e2 : Ev) (w : World) :
    Calls Try.prog 25 #[.agg #[.string e1.host, .int .u64 e1.lam, .bool e1.z, .int .u32 e1.own, .int .u32 e1.nn, .slice e1.a e1.len e1.cap], .agg #[.string e2.host, .int .u64 e2.lam, .bool e2.z, .int .u32 e2.own, .int .u32 e2.nn, .slice e2.a e2.len e2.cap]] w fun e w' => e = .returned (.bool (keyB e1.lam e2.lam e1.host e2.host)) ∧ Below w.heap.size w w' := by
  have HB : Hid (∀ x y, Below w.heap.size w ((w.alloc x).alloc y)) := fun x y => ((Below.refl _ _).alloc (Nat.le_refl _) _).alloc (by simp) _
  unfold keyB
  cases h1 : decide (e1.lam < e2.lam) with
  | true =>
    go_enter Try.func25, Try.ntmps25
    go_wp2
    go_ret
    exact ⟨by simp, HB.out _ _⟩
  | false =>
    cases h2 : decide (e1.lam = e2.lam) with
    | false =>
      have h2' : (e1.lam == e2.lam) = false := by simpa using h2
      clear h2
      go_enter Try.func25, Try.ntmps25
      go_wp2
      go_ret
      exact ⟨by simp, HB.out _ _⟩
    | true =>
      have h2' : (e1.lam == e2.lam) = true := by simpa using h2
      clear h2
      cases h3 : ltB e1.host e2.host with
      | true =>
        have h3' : Op.bytesLess e1.host.toList e2.host.toList = true := h3
        clear h3
        go_enter Try.func25, Try.ntmps25
        go_wp2
        go_ret
        exact ⟨by simp, HB.out _ _⟩
      | false =>
        have h3' : Op.bytesLess e1.host.toList e2.host.toList = false := h3
        clear h3
        go_enter Try.func25, Try.ntmps25
        go_wp2
        go_ret
        exact ⟨by simp, HB.out _ _⟩

/-- the count of host number i (none: -1) -/
def cntI (e : Ev) (i : Int) : Int := if i < 0 then 0 else e.clk.cnt i

theorem cntI_idx (e : Ev) (nm : Nat → ByteArray) (n : Nat) (s : ByteArray) : cntI e (match idxOf nm s n with | some i => (i : Int) | none => -1) = cH nm n e.clk s := by
  cases h : idxOf nm s n with
  | none => rw [cH_none h]; rfl
  | some i => rw [cH_some h]; simp only [cntI]; rw [if_neg (by omega)]

theorem look_first {hs cn : Nat → Int} {i : Int} {n j : Nat} (asc : ∀ t, t + 1 < n → hs t < hs (t + 1)) (hj : j < n) (e : hs j = i) : look hs cn i n = cn j := by
  subst e; exact look_asc asc hj

set_option maxRecDepth 100000 in
set_option maxHeartbeats 2000000 in
theorem countAt_any (e : Ev) (n : Nat) (i : Int) (w : World) (hi : -1 ≤ i ∧ i < 131072) (hl : e.len ≤ 131072) (hr : EvRaw w e.own e.nn e.a e.len e.hs e.cn e.host) (hok : ClockOk n e.z e.own e.len e.hs e.cn) :
    Calls Try.prog 32 #[.agg #[.string e.host, .int .u64 e.lam, .bool e.z, .int .u32 e.own, .int .u32 e.nn, .slice e.a e.len e.cap], .int .i64 i] w fun x w' => x = .returned (.int .u64 (cntI e i)) ∧ Below w.heap.size w w' := by
  obtain ⟨rv, host, lam, z, own, nn, a, len, cap, hs, cn⟩ := e
  simp only at *
  have HB : Hid (∀ o, Below w.heap.size w (w.alloc o)) := fun o => (Below.refl _ _).alloc (Nat.le_refl _) _
  have HR : Hid (EvRaw w own nn a len hs cn host) := hr
  obtain ⟨ho0, ho1⟩ := hr.own
  obtain ⟨hn0, hn1⟩ := hr.nn
  have wn := wrap_u64_32 ⟨hn0, hn1⟩
  clear hr
  cases z with
  | true =>
    have HC0 : cntI ⟨rv, host, lam, true, own, nn, a, len, cap, hs, cn⟩ i = 0 := by
      unfold cntI Ev.clk evClk
      split
      · rfl
      · simp [zeroClk, Clk.cnt, look]
    have HC : Hid _ := HC0
    clear HC0
    clear hok
    go_enter Try.func32, Try.ntmps32
    go_wp2
    go_ret
    exact ⟨by rw [HC.out]; rfl, HB.out _⟩
  | false =>
    by_cases hneg : i < 0
    · have HC0 : cntI ⟨rv, host, lam, false, own, nn, a, len, cap, hs, cn⟩ i = 0 := by
        unfold cntI; rw [if_pos hneg]
      have HC : Hid _ := HC0
      clear HC0
      clear hok
      go_enter Try.func32, Try.ntmps32
      go_wp2
      go_ret
      exact ⟨by rw [HC.out]; rfl, HB.out _⟩
    · have hi0 : 0 ≤ i := by omega
      have hw : IntKind.u32.wrap i = i := by rw [IntKind.wrap_u32]; omega
      have HC : Hid (cntI ⟨rv, host, lam, false, own, nn, a, len, cap, hs, cn⟩ i = if i = own then nn else look hs cn i len) := by
        unfold cntI; rw [if_neg hneg]; rfl
      have HA : Hid (∀ t, t + 1 < len → hs t < hs (t + 1)) := by
        rcases hok with h | ⟨h1, h2⟩
        · cases h
        · exact fun t ht => by have := (h2 (t + 1) ht).2.2.2 (by omega); simpa using this
      clear hok
      by_cases how : i = own
      · have HC0 : cntI ⟨rv, host, lam, false, own, nn, a, len, cap, hs, cn⟩ i = nn := by rw [HC.out, if_pos how]
        have HC' : Hid _ := HC0
        clear HC0
        have how' : (i == own) = true := by simpa using how
        clear HC how
        go_enter Try.func32, Try.ntmps32
        go_wp2
        go_ret
        exact ⟨by rw [HC'.out]; rfl, HB.out _⟩
      · have HC0 : cntI ⟨rv, host, lam, false, own, nn, a, len, cap, hs, cn⟩ i = look hs cn i len := by rw [HC.out, if_neg how]
        have HC' : Hid _ := HC0
        clear HC0
        have how' : (i == own) = false := by simpa using how
        clear HC how
        go_enter Try.func32, Try.ntmps32
        go_wp2
        generalize hW : w.alloc (.cells #[.string host, .int .u64 lam, .bool false, .int .u32 own, .int .u32 nn, .slice a len cap] 27) = W at *
        have HBW : Hid (Below w.heap.size w W) := by rw [← hW]; exact (Below.refl _ _).alloc (Nat.le_refl _) _
        have f5 : W.cell? ⟨w.heap.size, 5, none⟩ = some (.slice a len cap) := by rw [← hW]; simp
        clear hW
        go_loopg [5] len (fun kx s wr => ∃ j : Nat, j ≤ len ∧ s = .int .i64 j ∧ len - j ≤ kx ∧ Hid (∀ t, t < j → hs t ≠ i) ∧ wr = W)
        case atStart => exact ⟨0, Nat.zero_le _, rfl, by omega, (fun t ht => by omega : ∀ t, t < 0 → hs t ≠ i), rfl⟩
        case round =>
          obtain ⟨j, hj, rfl, hgj, hA, rfl⟩ := hrel
          by_cases hlt : j < len
          · rcases HR.out.kn with e0 | ⟨b0, o0, ha0, hb0, hc0⟩
            · omega
            obtain ⟨d0, d1⟩ := hc0 j hlt
            rw [← HBW.out.cell hb0] at d0 d1
            obtain ⟨hc00, hc01⟩ := HR.out.cn j hlt
            have wc := wrap_u64_32 ⟨hc00, hc01⟩
            subst ha0
            clear hc0
            cases q : (hs j == i) with
            | true =>
              have HQ : Hid (look hs cn i len = cn j) := look_first HA.out hlt (by simpa using q)
              go_wp2
              go_ret
              exact ⟨by rw [HC'.out, HQ.out]; rfl, HBW.out⟩
            | false =>
              have hA' : Hid (∀ t, t < j + 1 → hs t ≠ i) := by
                intro t ht
                by_cases e : t = j
                · subst e; simpa using q
                · exact hA.out t (by omega)
              go_wp2
              go_roundg (len - (j + 1))
              case measure => omega
              case rel => exact ⟨j + 1, by omega, by go_num, Nat.le_refl _, hA', rfl⟩
          · obtain rfl : j = len := by omega
            have HQ : Hid (look hs cn i j = 0) := look_none hA.out
            go_wp2
            go_ret
            exact ⟨by rw [HC'.out, HQ.out]; rfl, HBW.out⟩

end Go.Proofs.Qxb6609005a
