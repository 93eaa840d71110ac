import Derived.Test.Qxb6608865aW1
namespace Go.Proofs.Qxb6608865a
open Go.RowKit
set_option linter.unusedSimpArgs false
set_option linter.unusedVariables false

/-- a view set in memory: n entries of three cells: counter, node, nodes -/
structure VS (w : World) (g n : Nat) (cs ns : Nat → Int) : Prop where
  lt : g < w.heap.size
  c0 : ∀ i, i < n → w.cell? ⟨g, i * 3, none⟩ = some (.int .u64 (cs i))
  c1 : ∀ i, i < n → w.cell? ⟨g, i * 3 + 1, none⟩ = some (.int .u64 (ns i))

theorem VS.below {w w' : World} {g n : Nat} {cs ns : Nat → Int} (h : VS w g n cs ns) (k : Below w.heap.size w w') : VS w' g n cs ns :=
  ⟨Nat.lt_of_lt_of_le h.lt k.size, fun i hi => by rw [k.cell h.lt]; exact h.c0 i hi, fun i hi => by rw [k.cell h.lt]; exact h.c1 i hi⟩

/-- the state of a search: all below lo are before the tag, none from hi on is -/
def Span (cs ns : Nat → Int) (c nd : Int) (n lo hi : Nat) : Prop := (∀ t, t < lo → tlB (cs t) (ns t) c nd = true) ∧ (∀ t, hi ≤ t → t < n → tlB (cs t) (ns t) c nd = false)
def Mono (cs ns : Nat → Int) (c nd : Int) (n : Nat) : Prop := ∀ i j, i ≤ j → j < n → tlB (cs j) (ns j) c nd = true → tlB (cs i) (ns i) c nd = true

theorem Span.start (cs ns : Nat → Int) (c nd : Int) (n : Nat) : Span cs ns c nd n 0 n := ⟨fun t ht => absurd ht (Nat.not_lt_zero _), fun t h1 h2 => by omega⟩
theorem Span.up {cs ns : Nat → Int} {c nd : Int} {n lo hi h : Nat} (s : Span cs ns c nd n lo hi) (m : Mono cs ns c nd n) (hh : h < n) (d : tlB (cs h) (ns h) c nd = true) : Span cs ns c nd n (h + 1) hi :=
  ⟨fun t ht => m t h (by omega) hh d, s.2⟩
theorem Span.down {cs ns : Nat → Int} {c nd : Int} {n lo hi h : Nat} (s : Span cs ns c nd n lo hi) (m : Mono cs ns c nd n) (d : tlB (cs h) (ns h) c nd = false) : Span cs ns c nd n lo h :=
  ⟨s.1, fun t ht hn => by
    cases e : tlB (cs t) (ns t) c nd with
    | false => rfl
    | true => have := m h t ht hn e; rw [d] at this; cases this⟩

/-- the entry at k is the tag -/
def isAt (cs ns : Nat → Int) (c nd : Int) (n k : Nat) : Bool := decide (k < n) && (cs k == c && ns k == nd)

/-- what find hands back -/
def Found (cs ns : Nat → Int) (c nd : Int) (n : Nat) (e : Ending) : Prop :=
  ∃ k : Nat, k ≤ n ∧ Span cs ns c nd n k k ∧ e = .returned (.tuple #[.int .i64 k, .bool (isAt cs ns c nd n k)])

theorem hp34 : Try.prog.stoodInHeld 34 = false := by kernel_rfl
theorem hm34 : Try.prog.eqGuardType Try.prog.depth 34 = false := by kernel_rfl

set_option maxHeartbeats 400000 in
theorem find_any (g n : Nat) (cs ns : Nat → Int) (c nd : Int) (w : World) (hn : n ≤ 65537) (hv : VS w g n cs ns) (hm : Mono cs ns c nd n) :
    Calls Try.prog 11 #[.slice (some ⟨g, 0, none⟩) n n, .agg #[.int .u64 c, .int .u64 nd]] w fun e w' => Found cs ns c nd n e ∧ Below w.heap.size w w' := by
  have HV : Hid (VS w g n cs ns) := hv
  have HM : Hid (Mono cs ns c nd n) := hm
  clear hv hm
  go_enter Try.func11, Try.ntmps11
  go_wp2
  go_loopg [6, 7] n (fun kx s9 s10 wr => ∃ lo hi : Nat, s9 = .int .i64 lo ∧ s10 = .int .i64 hi ∧ lo ≤ hi ∧ hi ≤ n ∧ hi - lo ≤ kx ∧ w.heap.size < wr.heap.size ∧ wr.cell? ⟨w.heap.size, 0, none⟩ = some (.int .u64 c) ∧ wr.cell? ⟨w.heap.size, 1, none⟩ = some (.int .u64 nd) ∧ Hid (Below w.heap.size w wr) ∧ Hid (Span cs ns c nd n lo hi))
  case atStart => exact ⟨0, n, rfl, rfl, Nat.zero_le _, Nat.le_refl _, by omega, by simp, by simp, by simp, (Below.refl _ _).alloc (Nat.le_refl _) _, Span.start _ _ _ _ _⟩
  case round =>
    obtain ⟨lo, hi, rfl, rfl, hlh, hin, hgh, hsz, t0, t1, hb, hs⟩ := hrel
    by_cases hlt : lo < hi
    · have c0 : wr.cell? ⟨g, (lo + hi) / 2 * 3, none⟩ = some (.int .u64 (cs ((lo + hi) / 2))) := by rw [hb.out.cell HV.out.lt]; exact HV.out.c0 _ (by omega)
      have c1 : wr.cell? ⟨g, (lo + hi) / 2 * 3 + 1, none⟩ = some (.int .u64 (ns ((lo + hi) / 2))) := by rw [hb.out.cell HV.out.lt]; exact HV.out.c1 _ (by omega)
      go_wp2
      go_region_with (go_at_call 12; refine (less_any _ _ _ _ _).mono ?_; rintro e w' ⟨rfl, o1, o2, rfl⟩)
      all_goals
        have hbb : Hid (Below wr.heap.size wr ((wr.alloc o1).alloc o2).drew) := (((Below.refl _ _).alloc (Nat.le_refl _) _).alloc (by simp) _).drew
        cases hx : tlB (cs ((lo + hi) / 2)) (ns ((lo + hi) / 2)) c nd with
        | true =>
          have HX : Hid (tlB (cs ((lo + hi) / 2)) (ns ((lo + hi) / 2)) c nd = true) := hx
          clear hx
          go_wp2
          go_roundg (hi - ((lo + hi) / 2 + 1))
          case measure => omega
          case rel =>
            refine ⟨(lo + hi) / 2 + 1, hi, by rw [show ((lo : Int) + (hi : Int)) / 2 + 1 = (((lo + hi) / 2 + 1 : Nat) : Int) by omega], rfl, by omega, hin, Nat.le_refl _, ?_, ?_, ?_, ?_, hs.out.up HM.out (by omega) HX.out⟩
            · exact Nat.lt_of_lt_of_le hsz hbb.out.size
            · rw [hbb.out.cell hsz]; exact t0
            · rw [hbb.out.cell hsz]; exact t1
            · exact hb.out.trans (hbb.out.mono hb.out.size)
        | false =>
          have HX : Hid (tlB (cs ((lo + hi) / 2)) (ns ((lo + hi) / 2)) c nd = false) := hx
          clear hx
          go_wp2
          go_roundg ((lo + hi) / 2 - lo)
          case measure => omega
          case rel =>
            refine ⟨lo, (lo + hi) / 2, rfl, by rw [show ((lo : Int) + (hi : Int)) / 2 = (((lo + hi) / 2 : Nat) : Int) by omega], by omega, by omega, Nat.le_refl _, ?_, ?_, ?_, ?_, hs.out.down HM.out HX.out⟩
            · exact Nat.lt_of_lt_of_le hsz hbb.out.size
            · rw [hbb.out.cell hsz]; exact t0
            · rw [hbb.out.cell hsz]; exact t1
            · exact hb.out.trans (hbb.out.mono hb.out.size)
    · obtain rfl : hi = lo := by omega
      by_cases hk : hi < n
      · have c0 : wr.cell? ⟨g, hi * 3, none⟩ = some (.int .u64 (cs hi)) := by rw [hb.out.cell HV.out.lt]; exact HV.out.c0 _ (by omega)
        have c1 : wr.cell? ⟨g, hi * 3 + 1, none⟩ = some (.int .u64 (ns hi)) := by rw [hb.out.cell HV.out.lt]; exact HV.out.c1 _ (by omega)
        have g34 := hp34
        have m34 := hm34
        by_cases hc : cs hi = c
        · by_cases hd : ns hi = nd
          · have HI : Hid (isAt cs ns c nd n hi = true) := by simp [isAt, hk, hc, hd, Hid]
            go_wp2
            go_quiet (fail)
            go_wp2
            go_ret2
            exact ⟨⟨hi, hin, hs.out, by rw [HI.out]; rfl⟩, below_drewN hb.out _⟩
          · have HI : Hid (isAt cs ns c nd n hi = false) := by simp [isAt, hk, hc, hd, Hid]
            go_wp2
            go_quiet (fail)
            go_wp2
            go_ret2
            exact ⟨⟨hi, hin, hs.out, by rw [HI.out]; rfl⟩, below_drewN hb.out _⟩
        · have HI : Hid (isAt cs ns c nd n hi = false) := by simp [isAt, hk, hc, Hid]
          go_wp2
          go_quiet (fail)
          go_wp2
          go_ret2
          exact ⟨⟨hi, hin, hs.out, by rw [HI.out]; rfl⟩, below_drewN hb.out _⟩
      · have hd : decide ((hi : Int) < (n : Int)) = false := by simp; omega
        go_wp2
        go_quiet (fail)
        go_wp2
        go_ret2
        exact ⟨⟨hi, hin, hs.out, by simp [isAt, hk]⟩, below_drewN hb.out _⟩

theorem zzfind (g n : Nat) (cs ns : Nat → Int) (c nd : Int) (w : World) (hn : n ≤ 65537) (hv : VS w g n cs ns) (hm : Mono cs ns c nd n) :
    Calls Try.prog 8 #[.slice (some ⟨g, 0, none⟩) n n, .int .u64 c, .int .u64 nd] w fun e w' => Found cs ns c nd n e ∧ Below w.heap.size w w' := by
  have HV : Hid (VS w g n cs ns) := hv
  have HM : Hid (Mono cs ns c nd n) := hm
  clear hv hm
  go_enter Try.func8, Try.ntmps8
  go_wp2_with fail
  refine (find_any g n cs ns c nd w hn HV.out HM.out).mono ?_
  rintro e w' ⟨⟨k, hk, hs, rfl⟩, hbel⟩
  go_wp2
  go_ret2
  exact ⟨⟨k, hk, hs, rfl⟩, hbel⟩

/-- the entries after k rounds -/
def Entries (w : World) (g n : Nat) (cs ns : Nat → Int) (k : Nat) : Prop :=
  ∃ f, Own w g (n * 3) f ∧ ∀ i, i < k → f (i * 3) = .int .u64 (cs i) ∧ f (i * 3 + 1) = .int .u64 (ns i)

theorem Entries.set {w : World} {g n : Nat} {cs ns : Nat → Int} {k : Nat} (h : Entries w g n cs ns k) (hk : k < n) (v : Value) :
    Entries (((w.setCell ⟨g, k * 3, none⟩ (.int .u64 (cs k))).setCell ⟨g, k * 3 + 1, none⟩ (.int .u64 (ns k))).setCell ⟨g, k * 3 + 2, none⟩ v) g n cs ns (k + 1) := by
  obtain ⟨f, hf, hx⟩ := h
  refine ⟨_, ((hf.set (k * 3) (by omega) _).set (k * 3 + 1) (by omega) _).set (k * 3 + 2) (by omega) _, fun i hi => ?_⟩
  by_cases e : i = k
  · subst e; simp
  · obtain ⟨h1, h2⟩ := hx i (by omega)
    simp only [show i * 3 ≠ k * 3 + 2 by omega, show i * 3 ≠ k * 3 + 1 by omega, show i * 3 ≠ k * 3 by omega, show i * 3 + 1 ≠ k * 3 + 2 by omega, show i * 3 + 1 ≠ k * 3 + 1 by omega, show i * 3 + 1 ≠ k * 3 by omega, if_false]
    exact ⟨h1, h2⟩

set_option maxHeartbeats 400000 in
theorem newVS (a0 a1 : Option Addr) (c0 c1 n m : Nat) (cs ns : Nat → Int) (w : World) (hn : n ≤ 65537) (hnm : n ≤ m)
    (h0 : Rd w a0 n (fun i => .int .u64 (cs i))) (h1 : Rd w a1 m (fun i => .int .u64 (ns i))) :
    Calls Try.prog 7 #[.slice a0 n c0, .slice a1 m c1] w fun e w' => ∃ g, e = .returned (.slice (some ⟨g, 0, none⟩) n n) ∧ VS w' g n cs ns ∧ Below w.heap.size w w' := by
  have hmk := run_mk (P := Try.prog) 27 37 _ 3 24 Try.underlying27 info37 n (by omega) (by omega)
  have H0 : Hid (Rd w a0 n (fun i => .int .u64 (cs i))) := h0
  have H1 : Hid (Rd w a1 m (fun i => .int .u64 (ns i))) := h1
  clear h0 h1
  go_enter Try.func7, Try.ntmps7
  go_wp2
  go_loopg [6] n (fun kx s wr => ∃ k : Nat, k ≤ n ∧ s = .int .i64 k ∧ n - k ≤ kx ∧ Hid (Below w.heap.size w wr) ∧ Hid (Entries wr w.heap.size n cs ns k))
  case atStart =>
    exact ⟨0, Nat.zero_le _, rfl, by omega, (Below.refl _ _).alloc (Nat.le_refl _) _, (⟨_, Own.made w _ _ _, fun i hi => by omega⟩ : Entries _ _ n cs ns 0)⟩
  case round =>
    obtain ⟨k, hk, rfl, hgh, hb, hE⟩ := hrel
    by_cases hlt : k < n
    · rcases H0.out with e0 | ⟨b0, o0, ha0, hb0, hc0⟩
      · omega
      rcases H1.out with e1 | ⟨b1, o1, ha1, hb1, hc1⟩
      · omega
      obtain ⟨f, hO, hf⟩ := hE.out
      have d0 : wr.cell? ⟨b0, o0 + k, none⟩ = some (.int .u64 (cs k)) := by rw [hb.out.cell hb0]; exact hc0 k hlt
      have d1 : wr.cell? ⟨b1, o1 + k, none⟩ = some (.int .u64 (ns k)) := by rw [hb.out.cell hb1]; exact hc1 k (by omega)
      have e0 := hO.cell (k * 3) (by omega)
      have e1 := hO.cell (k * 3 + 1) (by omega)
      have e2 := hO.cell (k * 3 + 2) (by omega)
      have t0 := hO.thaw (k * 3)
      have t1 := hO.thaw (k * 3 + 1)
      have t2 := hO.thaw (k * 3 + 2)
      have hkm : k < m := by omega
      clear hO hf hc0 hc1
      subst ha0 ha1
      go_wp2
      go_region
      go_wp2
      go_roundg (n - (k + 1))
      case measure => omega
      case rel =>
        refine ⟨k + 1, by omega, by go_num, Nat.le_refl _, ?_, ?_⟩
        · exact ((((hb.out.setCell (Nat.le_refl _) _).setCell (Nat.le_refl _) _)).setCell (Nat.le_refl _) _).drew
        · obtain ⟨f', h1', h2'⟩ := hE.out.set hlt (.int .u64 0)
          exact (⟨f', h1'.drew, h2'⟩ : Entries _ _ n cs ns (k + 1))
    · obtain rfl : k = n := by omega
      go_wp2
      go_ret
      obtain ⟨f, hO, hf⟩ := hE.out
      refine ⟨w.heap.size, rfl, ⟨hO.lt, fun i hi => ?_, fun i hi => ?_⟩, hb.out⟩
      · rw [hO.cell _ (by omega), (hf i hi).1]
      · rw [hO.cell _ (by omega), (hf i hi).2]

end Go.Proofs.Qxb6608865a
