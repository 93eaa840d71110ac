import Derived.Test.Qxb6609005aC4
import Derived.Deep.RegionWith
namespace Go.Proofs.Qxb6609005a
open Go.RowKit Go.WideMaps Go.Maps Go.Sort
set_option linter.unusedSimpArgs false
set_option linter.unusedVariables false
set_option linter.unusedSectionVars false

theorem info3 : (Try.prog.info? 3).map (fun i => (i.zero, i.size, i.bytes)) = some (some (.int .i64 0), 1, 8) := by kernel_rfl
theorem info23 : (Try.prog.info? 23).map (fun i => (i.zero, i.size, i.bytes)) = some (some (.int .u64 0), 1, 8) := by kernel_rfl

/-- the two rows while they are filled -/
structure SC (nm : Nat → ByteArray) (n : Nat) (ev : Nat → Ev) (w : World) (gi go m k : Nat) (W : World) : Prop where
  bel : Below w.heap.size w W
  oi : Own W gi m (fun t => if t < k then .int .i64 ((ev t).ix nm n) else .int .i64 0)
  oo : Own W go m (fun t => if t < k then .int .u64 ((ev t).on nm n) else .int .u64 0)
  gi0 : w.heap.size ≤ gi
  go0 : w.heap.size ≤ go
  ne : gi ≠ go

theorem SC.start (nm : Nat → ByteArray) (n : Nat) (ev : Nat → Ev) (w : World) (m : Nat) : SC nm n ev w w.heap.size (w.heap.size + 1) m 0 ((w.alloc (.cells (madeCells #[.int .i64 0] m) 3)).alloc (.cells (madeCells #[.int .u64 0] m) 23)) := by
  refine ⟨((Below.refl _ _).alloc (Nat.le_refl _) _).alloc (by simp) _, ?_, ?_, Nat.le_refl _, by omega, by omega⟩
  · refine ((Own.made w #[.int .i64 0] m 3).alloc _).congr (fun i hi => by simp [Nat.mod_one])
  · have := Own.made (w.alloc (.cells (madeCells #[.int .i64 0] m) 3)) #[.int .u64 0] m 23
    rw [World.size_alloc] at this
    exact this.congr (fun i hi => by simp [Nat.mod_one])

theorem SC.skip {nm : Nat → ByteArray} {n : Nat} {ev : Nat → Ev} {w : World} {gi go m k : Nat} {W : World} (h : SC nm n ev w gi go m k W) (hr : (ev k).rv = false) : SC nm n ev w gi go m (k + 1) W := by
  refine ⟨h.bel, h.oi.congr fun t ht => ?_, h.oo.congr fun t ht => ?_, h.gi0, h.go0, h.ne⟩
  · by_cases e : t = k
    · subst e; simp [Ev.ix, hr]
    · by_cases e2 : t < k
      · simp [e2, show t < k + 1 by omega]
      · simp [e2, show ¬ t < k + 1 by omega]
  · by_cases e : t = k
    · subst e; simp [Ev.on, hr]
    · by_cases e2 : t < k
      · simp [e2, show t < k + 1 by omega]
      · simp [e2, show ¬ t < k + 1 by omega]

theorem SC.next {nm : Nat → ByteArray} {n : Nat} {ev : Nat → Ev} {w : World} {gi go m k : Nat} {W W3 : World} (h : SC nm n ev w gi go m k W) (hk : k < m) {x c : Int} (hx : (ev k).ix nm n = x) (hc : (ev k).on nm n = c) (hb : Below (W.setCell ⟨gi, k, none⟩ (.int .i64 x)).heap.size (W.setCell ⟨gi, k, none⟩ (.int .i64 x)) W3) : SC nm n ev w gi go m (k + 1) (W3.setCell ⟨go, k, none⟩ (.int .u64 c)) := by
  have hsz : (W.setCell ⟨gi, k, none⟩ (.int .i64 x)).heap.size = W.heap.size := World.size_setCell _ _ _
  have b1 : Below w.heap.size w (W.setCell ⟨gi, k, none⟩ (.int .i64 x)) := h.bel.setCell (p := ⟨gi, k, none⟩) h.gi0 _
  have b2 : Below w.heap.size w W3 := b1.trans (hb.mono b1.size)
  have o1 := (h.oi.set k hk (.int .i64 x)).below hb (by rw [hsz]; exact h.oi.lt)
  have o2 := (h.oo.setOther (a := ⟨gi, k, none⟩) (by show gi ≠ go; exact h.ne) (.int .i64 x)).below hb (by rw [hsz]; exact h.oo.lt)
  refine ⟨b2.setCell (p := ⟨go, k, none⟩) h.go0 _, (o1.setOther (a := ⟨go, k, none⟩) (by show go ≠ gi; exact fun e => h.ne e.symm) _).congr fun t ht => ?_, (o2.set k hk (.int .u64 c)).congr fun t ht => ?_, h.gi0, h.go0, h.ne⟩
  · by_cases e : t = k
    · subst e; simp [hx]
    · by_cases e2 : t < k
      · simp [e, e2, show t < k + 1 by omega]
      · simp [e, e2, show ¬ t < k + 1 by omega]
  · by_cases e : t = k
    · subst e; simp [hc]
    · by_cases e2 : t < k
      · simp [e, e2, show t < k + 1 by omega]
      · simp [e, e2, show ¬ t < k + 1 by omega]

theorem indexOf_ixZ (a0 : Option Addr) (n c0 : Nat) (nm : Nat → ByteArray) (s : ByteArray) (w : World) (hn : n ≤ 131072) (h0 : Rd w a0 n (fun i => .string (nm i))) (hd : Distinct nm n) :
    Calls Try.prog 30 #[.slice a0 n c0, .string s] w fun e w' => e = .returned (.int .i64 (ixZ nm n s)) ∧ w' = w := by
  refine (indexOf_any a0 n c0 nm s w hn h0 hd).mono ?_
  rintro e w' ⟨⟨i, h1, rfl⟩ | ⟨h1, rfl⟩, rfl⟩
  · exact ⟨by simp [ixZ, h1], rfl⟩
  · exact ⟨by simp [ixZ, h1], rfl⟩

theorem drew_below (w : World) : Below w.heap.size w w.drew := ⟨rfl, rfl, rfl, Nat.le_refl _, fun _ _ => rfl⟩

set_option maxRecDepth 100000 in
set_option maxHeartbeats 4000000 in
theorem sendCounts_any (a0 : Option Addr) (n0 c0 : Nat) (nm : Nat → ByteArray) (a1 : Option Addr) (m c1 : Nat) (ev : Nat → Ev) (w : World) (hn : n0 ≤ 131072) (hm : m ≤ 1024) (h0 : Rd w a0 n0 (fun i => .string (nm i))) (hd : Distinct nm n0) (h1 : EvsOk w a1 m n0 ev) :
    Calls Try.prog 23 #[.slice a0 n0 c0, .slice a1 m c1] w fun e w' => ∃ gi go, e = .returned (.tuple #[.slice (some ⟨gi, 0, none⟩) m m, .slice (some ⟨go, 0, none⟩) m m]) ∧
      Rd w' (some ⟨gi, 0, none⟩) m (fun k => .int .i64 ((ev k).ix nm n0)) ∧ Rd w' (some ⟨go, 0, none⟩) m (fun k => .int .u64 ((ev k).on nm n0)) ∧ Below w.heap.size w w' := by
  have hmk1 := run_mk1 (P := Try.prog) 56 3 _ 8 Try.underlying56 info3 rfl m (by omega) (by omega)
  have hmk2 := run_mk1 (P := Try.prog) 57 23 _ 8 Try.underlying57 info23 rfl m (by omega) (by omega)
  have H0 : Hid (Rd w a0 n0 (fun i => .string (nm i))) := h0
  have HD : Hid (Distinct nm n0) := hd
  have H1 : Hid (EvsOk w a1 m n0 ev) := h1
  clear h0 hd h1
  go_enter Try.func23, Try.ntmps23
  go_wp2
  have S0 : Hid (SC nm n0 ev w w.heap.size (w.heap.size + 1) m 0 ((w.alloc (.cells (madeCells #[.int .i64 0] m) 3)).alloc (.cells (madeCells #[.int .u64 0] m) 23))) := SC.start nm n0 ev w m
  go_loopg [8] m (fun kx s wr => ∃ k : Nat, k ≤ m ∧ s = .int .i64 k ∧ m - k ≤ kx ∧ Hid (SC nm n0 ev w w.heap.size (w.heap.size + 1) m k wr))
  case atStart => exact ⟨0, Nat.zero_le _, rfl, by omega, S0⟩
  case round =>
    clear S0
    obtain ⟨k, hk, rfl, hkx, S⟩ := hrel
    by_cases hlt : k < m
    · obtain ⟨b1, o1, ha1, X⟩ := (H1.out.below S.out.bel).at_.at hlt
      subst ha1
      cases hrv : (ev k).rv with
      | false =>
        have x0 := X.c0
        rw [hrv] at x0
        have S2 : Hid (SC nm n0 ev w w.heap.size (w.heap.size + 1) m (k + 1) wr) := S.out.skip hrv
        clear S X hrv
        go_wp2
        go_roundg (m - (k + 1))
        case measure => omega
        case rel => exact ⟨k + 1, by omega, by go_num, Nat.le_refl _, S2⟩
      | true =>
        have x0 := X.c0
        have x1 := X.c1
        rw [hrv] at x0
        have hix := indexOf_ixZ a0 n0 c0 nm (ev k).host wr hn (H0.out.below S.out.bel) HD.out
        have gi1 := S.out.oi.cell k hlt
        have gi2 := S.out.oi.thaw k
        have HX : Hid ((ev k).ix nm n0 = ixZ nm n0 (ev k).host) := by show Ev.ix _ _ _ = _; unfold Ev.ix; rw [if_pos hrv]
        have HC : Hid ((ev k).on nm n0 = cntI (ev k) (ixZ nm n0 (ev k).host)) := by show Ev.on _ _ _ = _; unfold Ev.on; rw [if_pos hrv, cntI_ixZ]
        have HRV : Hid ((ev k).rv = true) := hrv
        have hixr := ixZ_range nm n0 (ev k).host hn
        clear X hrv
        go_upto_region 8 with (go_at_call 30; refine hix.mono ?_; rintro e w' ⟨rfl, hw'⟩; rw [hw']; clear hw' w')
        clear hix gi1 gi2 x0 x1
        obtain ⟨W2, hW2⟩ : ∃ W2, W2 = wr.setCell ⟨w.heap.size, k, none⟩ (.int .i64 (ixZ nm n0 (ev k).host)) := ⟨_, rfl⟩
        have HW2 : Hid (W2 = wr.setCell ⟨w.heap.size, k, none⟩ (.int .i64 (ixZ nm n0 (ev k).host))) := hW2
        rw [← hW2]
        have B2 : Below w.heap.size w W2 := by rw [hW2]; exact S.out.bel.setCell (p := ⟨w.heap.size, k, none⟩) S.out.gi0 _
        have HB2 : Hid (Below w.heap.size w W2.drew) := B2.trans ((drew_below W2).mono B2.size)
        have gi3 : W2.drew.cell? ⟨w.heap.size, k, none⟩ = some (.int .i64 (ixZ nm n0 (ev k).host)) := by
          rw [hW2]; have := (S.out.oi.set k hlt (.int .i64 (ixZ nm n0 (ev k).host))).drew.cell k hlt; simpa using this
        have OO : Hid (Own W2.drew (w.heap.size + 1) m (fun t => if t < k then .int .u64 ((ev t).on nm n0) else .int .u64 0)) := by
          rw [hW2]; exact (S.out.oo.setOther (a := ⟨w.heap.size, k, none⟩) (by show w.heap.size ≠ w.heap.size + 1; omega) _).drew
        clear hW2 B2
        obtain ⟨b1', o1', ha1', X⟩ := (H1.out.below HB2.out).at_.at hlt
        obtain ⟨rfl, rfl⟩ : b1 = b1' ∧ o1 = o1' := by
          have := Option.some.inj ha1'
          injection this with e1 e2
          exact ⟨e1, e2⟩
        clear ha1'
        have hct := (H1.out.below HB2.out).count hlt HRV.out _ hixr
        obtain ⟨x0, x1, x2, x3, x4, x5, x6⟩ := X
        have HNX : Hid (∀ W3, Below W2.heap.size W2 W3 → SC nm n0 ev w w.heap.size (w.heap.size + 1) m (k + 1) (W3.setCell ⟨w.heap.size + 1, k, none⟩ (.int .u64 (cntI (ev k) (ixZ nm n0 (ev k).host))))) := fun W3 hb => by
          refine S.out.next hlt (x := ixZ nm n0 (ev k).host) (c := cntI (ev k) (ixZ nm n0 (ev k).host)) HX.out HC.out ?_
          rw [← HW2.out]; exact hb
        clear HX HC HRV H1
        generalize hcv : cntI (ev k) (ixZ nm n0 (ev k).host) = cv at *
        generalize hxv : ixZ nm n0 (ev k).host = xv at *
        clear hcv hxv
        generalize hek : ev k = ek at *
        clear hek
        have HS : Hid (W2.drew.heap.size = W2.heap.size) := rfl
        go_region_with (go_at_call 32
                        refine hct.mono ?_
                        rintro e w3 ⟨rfl, hb3⟩
                        have HB3 : Hid (Below W2.heap.size W2 w3) := (drew_below W2).trans hb3
                        have e1 := (OO.out.below hb3 OO.out.lt).cell k hlt
                        have t1 := (OO.out.below hb3 OO.out.lt).thaw k
                        clear hb3)
        all_goals (
          have S2 : Hid _ := HNX.out _ HB3.out
          go_wp2
          go_roundg (m - (k + 1))
          case measure => omega
          case rel => exact ⟨k + 1, by omega, by go_num, Nat.le_refl _, S2⟩)
    · obtain rfl : k = m := by omega
      go_wp2
      go_ret2
      exact ⟨_, _, rfl, (S.out.oi.congr fun t ht => by rw [if_pos ht]).rd, (S.out.oo.congr fun t ht => by rw [if_pos ht]).rd, S.out.bel⟩

end Go.Proofs.Qxb6609005a
