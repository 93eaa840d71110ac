import Derived.Test.Qxb6609005aD3
import Derived.Test.Qxb6609005aM6
import Derived.Test.Qxb6609005aC2
import Derived.BigQuiet
import Derived.Deep.RegionWith
namespace Go.Proofs.Qxb6609005a
open Go.RowKit Go.WideMaps Go.Maps Go.Sort
set_option linter.unusedSimpArgs false
set_option linter.unusedVariables false
set_option linter.unusedSectionVars false

theorem tot_lt {p : Nat → Nat → Bool} {m i q : Nat} (hq : q < cnB (p i) m) : ∀ k, i < k → tot p m i + q < tot p m k
  | 0, h => by omega
  | k + 1, h => by
    rw [tot]
    by_cases e : i = k
    · subst e; omega
    · have := tot_lt hq k (by omega); omega

theorem Fx5.pair {nm : Nat → ByteArray} {n0 : Nat} {a1 : Option Addr} {m : Nat} {ev : Nat → Ev} {fifo : Bool} {g : Log} {W : World} {pb hr gi go : Nat} {a3 : Option Addr} {N0 : Nat} {fe fl : Nat → Int} {ag : Option Addr} {NG : Nat} {GG : Nat → Nat → Nat} {w : World}
    (h : Fx5 nm n0 a1 m ev fifo g W pb hr gi go a3 N0 fe fl ag NG GG w) {i q ai : Nat} (hi : i < m) (hq : q < cnB (ovB nm n0 ev fifo i) m) (ha : ai = N0 + tot (ovB nm n0 ev fifo) m i) :
    ∃ bg og, ag = some ⟨bg, og, none⟩ ∧ w.cell? ⟨bg, og + (ai + q) * 2, none⟩ = some (.pointer (some ⟨g.E i, 0, none⟩)) ∧ w.cell? ⟨bg, og + (ai + q) * 2 + 1, none⟩ = some (.pointer (some ⟨g.E (GG i q), 0, none⟩)) := by
  rcases h.got with e | ⟨b, o, h1, h2, h3, h4⟩
  · have h5 := h.ng
    have h6 := tot_lt hq m hi
    omega
  · rw [ha]
    exact ⟨b, o, h1, h4 i q hi hq⟩

set_option maxRecDepth 100000 in
set_option maxHeartbeats 16000000 in
theorem main5 (a0 : Option Addr) (n0 c0 : Nat) (nm : Nat → ByteArray) (a1 : Option Addr) (m c1 : Nat) (ev : Nat → Ev) (d : Int) (a3 : Option Addr) (n3 c3 : Nat) (fe fl : Nat → Int) (W : World) (h0 : Rd W a0 n0 (fun i => .string (nm i))) (hs : ∀ i, i < n0 → (nm i).size ≤ maxLen) (l0 : n0 ≤ maxLen) (h1 : EvsAt W a1 m ev) (hm : m ≤ maxLen) (hd : 0 ≤ d ∧ d < 256) (h3 : RdI W a3 n3 fe fl) (l3 : n3 ≤ maxLen)
    (hb3 : ∀ t, t < n3 → (-9223372036854775808 ≤ fe t ∧ fe t < 9223372036854775808) ∧ (-9223372036854775808 ≤ fl t ∧ fl t < 9223372036854775808)) :
    Calls Try.prog 5 #[.slice a0 n0 c0, .slice a1 m c1, .int .u8 d, .slice a3 n3 c3] W fun e w' => e = .returned (.bool true) ∧ Below W.heap.size W w' := by
  have R0 : Hid (Rd W a0 n0 (fun i => .string (nm i))) := h0
  have HS : Hid (∀ i, i < n0 → (nm i).size ≤ maxLen) := hs
  have L0 : Hid (n0 ≤ maxLen) := l0
  have H1 : Hid (EvsAt W a1 m ev) := h1
  have H3 : Hid (RdI W a3 n3 fe fl) := h3
  have HM : Hid (m ≤ maxLen) := hm
  have L3 : Hid (n3 ≤ maxLen) := l3
  unfold maxLen at hm l3
  clear h0 hs l0 h1 h3 hb3
  go_enter Try.func5, Try.ntmps5
  go_wp2_with fail
  refine (zzBytes17 a0 n0 c0 nm a1 m c1 ev d a3 n3 c3 W R0.out HS.out L0.out H1.out HM.out L3.out).mono ?_
  rintro e w1 ⟨⟨r1, rfl, -⟩, hw⟩
  rw [hw]
  clear hw w1
  cases r1 with
  | false =>
    go_wp2
    go_ret
    exact ⟨rfl, Below.refl _ _⟩
  | true =>
  by_cases hm4 : m ≤ 1024
  rotate_left
  · go_wp2
    go_ret
    exact ⟨rfl, Below.refl _ _⟩
  by_cases hn3 : n3 ≤ 65536
  rotate_left
  · go_wp2
    go_ret
    exact ⟨rfl, Below.refl _ _⟩
  clear hm l3
  have CB : Hid (Calls Try.prog 18 #[.slice a0 n0 c0, .slice a1 m c1, .int .i64 n3] W fun e w' => (∃ r : Int, e = .returned (.int .i64 r) ∧ (r ≤ 1048576 → n0 ≤ 131072 ∧ ∀ i, i < m → (ev i).len ≤ 131072)) ∧ Below W.heap.size W w') :=
    hostBytes_any a0 n0 c0 nm a1 m c1 ev n3 W R0.out HS.out L0.out hm4 H1.out hn3
  go_wp2_with fail
  refine CB.out.mono ?_
  rintro e w2 ⟨⟨r2, rfl, hr2⟩, hb2⟩
  have B2 : Hid (Below W.heap.size W w2) := hb2
  clear hb2 CB
  by_cases hr : r2 ≤ 1048576
  rotate_left
  · clear hr2
    go_wp2
    go_ret
    exact ⟨rfl, B2.out⟩
  obtain ⟨hnn, hll⟩ := hr2 hr
  clear hr2
  have HL : Hid (∀ i, i < m → (ev i).len ≤ 131072) := hll
  clear hll
  by_cases hd12 : d = 1 ∨ d = 2
  rotate_left
  · have hd1 : ¬ d = 1 := fun e => hd12 (.inl e)
    have hd2 : ¬ d = 2 := fun e => hd12 (.inr e)
    have hb1 : (d == 1) = false := by simp [hd1]
    have hb2 : (d == 2) = false := by simp [hd2]
    have hc1 : (d != 1) = true := by simp [hd1]
    have hc2 : (d != 2) = true := by simp [hd2]
    clear hd12
    go_wp2
    go_ret
    exact ⟨rfl, B2.out⟩
  have HD : Hid (d = 1 ∨ d = 2) := hd12
  clear hd12
  go_upto_region 7 with fail
  go_cut [55] from 50 to 55 (fun s wx => s = .bool false ∧ wx = w2)
  case first =>
    by_cases hd1 : d = 1
    · subst hd1
      go_wp2_with fail
      go_meet
      case rel => exact ⟨rfl, rfl⟩
    · have hd2 : d = 2 := by rcases HD.out with e | e; exact absurd e hd1; exact e
      subst hd2
      go_wp2_with fail
      go_meet
      case rel => exact ⟨rfl, rfl⟩
  case rest =>
  obtain ⟨rfl, rfl⟩ := hcut
  go_wp2_with fail
  refine (hostShaped_any a0 n0 c0 nm a1 m c1 ev wc (R0.out.below B2.out) hnn hm4 (H1.out.below B2.out) HL.out).mono ?_
  rintro e w3 ⟨⟨r3, rfl, hr3⟩, hb3⟩
  have B3 : Hid (Below W.heap.size W w3) := B2.out.trans (hb3.mono B2.out.size)
  clear hb3
  cases r3 with
  | false =>
    clear hr3
    go_wp2
    go_ret
    exact ⟨rfl, B3.out⟩
  | true =>
  have HDi : Hid (Distinct nm n0) := distinct_of (hr3 rfl).1
  have HOk : Hid (EvsOk W a1 m n0 ev) := ⟨H1.out, HL.out, (hr3 rfl).2⟩
  clear hr3 hr
  go_wp2_with fail
  refine (buildHosts_any a0 n0 c0 nm a1 m c1 ev w3 hnn hm4 (R0.out.below B3.out) HS.out (HOk.out.below B3.out)).mono ?_
  rintro e w4 ⟨bm, hr, pb, E, F, rfl, hL4, hR4, hA4, hb4⟩
  have B4 : Hid (Below W.heap.size W w4) := B3.out.trans (hb4.mono B3.out.size)
  have L4 : Hid (LogAt w4 (lg ev nm n0 bm E F m)) := hL4
  have R4' : Hid (Rd w4 (some ⟨hr, 0, none⟩) m (fun i => .pointer (some ⟨E i, 0, none⟩))) := hR4
  have A4 : Hid (AMap w4 pb (fun i => .pointer (some ⟨E i, 0, none⟩)) (fun i => i < m) (fun i => some (.int .i64 (i : Nat)))) := hA4
  clear hb4 hL4 hR4 hA4 B2 B3
  have hmk48 := run_mk (P := Try.prog) 48 53 _ 2 16 Try.underlying48 info53 n3 (by omega) (by omega)
  have P0 : Hid (Pre (w4.alloc (.cells (madeCells #[.pointer none, .pointer none] (n3 * 2)) 53)) w4.heap.size n3 (fun t => pk m E (fe t)) (fun t => pk m E (fl t)) 0 ∧ Below w4.heap.size w4 (w4.alloc (.cells (madeCells #[.pointer none, .pointer none] (n3 * 2)) 53))) := ⟨Pre.made _ _ _ _ _ _, below_alloc w4 _⟩
  go_wp2_with fail
  go_loopg [12] n3 (fun kx s wr => ∃ k : Nat, k ≤ n3 ∧ s = .int .i64 k ∧ n3 - k ≤ kx ∧ Hid (Pre wr w4.heap.size n3 (fun t => pk m E (fe t)) (fun t => pk m E (fl t)) k ∧ Below w4.heap.size w4 wr))
  case atStart => exact ⟨0, Nat.zero_le _, rfl, by omega, P0.out⟩
  case round =>
    clear P0 hmk48
    obtain ⟨k, hk, rfl, hkx, S⟩ := hrel
    by_cases hlt : k < n3
    · obtain ⟨u0, u1, y0, y1, z0, z1⟩ := S.out.1.cells hlt
      obtain ⟨b3, o3, ha3, x0, x1⟩ := ((H3.out.below B4.out).below S.out.2).at hlt
      have hSet := S.out.1.set hlt
      rw [pk_eq, pk_eq] at hSet
      have NS : Hid (Pre (((wr.setCell ⟨w4.heap.size, k * 2, none⟩ (.pointer (pkp m E (fe k)))).setCell ⟨w4.heap.size, k * 2 + 1, none⟩ (.pointer (pkp m E (fl k))))) w4.heap.size n3 (fun t => pk m E (fe t)) (fun t => pk m E (fl t)) (k + 1) ∧ Below w4.heap.size w4 ((wr.setCell ⟨w4.heap.size, k * 2, none⟩ (.pointer (pkp m E (fe k)))).setCell ⟨w4.heap.size, k * 2 + 1, none⟩ (.pointer (pkp m E (fl k))))) :=
        ⟨hSet, S.out.2.trans (below_set2 wr _ _ _ _ _)⟩
      have CP0 : Hid (∀ W', Below wr.heap.size wr W' → Calls Try.prog 21 #[.slice (some ⟨hr, 0, none⟩) m m, .int .i64 (fe k)] W' fun e w' => e = .returned (.pointer (pkp m E (fe k))) ∧ w' = W') := fun W' hb =>
        pick_any (some ⟨hr, 0, none⟩) m m E (fe k) W' hm4 ((R4'.out.below S.out.2).below hb)
      have CP1 : Hid (∀ W', Below wr.heap.size wr W' → Calls Try.prog 21 #[.slice (some ⟨hr, 0, none⟩) m m, .int .i64 (fl k)] W' fun e w' => e = .returned (.pointer (pkp m E (fl k))) ∧ w' = W') := fun W' hb =>
        pick_any (some ⟨hr, 0, none⟩) m m E (fl k) W' hm4 ((R4'.out.below S.out.2).below hb)
      subst ha3
      clear hSet S
      generalize pkp m E (fe k) = q0 at *
      generalize pkp m E (fl k) = q1 at *
      generalize fe k = f0 at *
      generalize fl k = f1 at *
      go_upto_region 16 with fail
      go_region_with (first
        | (go_at_call_of 21 f0; refine (CP0.out _ (below_drew wr)).mono ?_; rintro e w' ⟨rfl, hw'⟩; rw [hw']; clear hw' w')
        | (go_at_call_of 21 f1; refine (CP1.out _ (below_drew wr)).mono ?_; rintro e w' ⟨rfl, hw'⟩; rw [hw']; clear hw' w'))
      all_goals
        go_wp2_with fail
        go_roundg (n3 - (k + 1))
        case measure => omega
        case rel => exact ⟨k + 1, by omega, by go_num, Nat.le_refl _, NS.out.1.drew, NS.out.2.drew⟩
    · have hkn : k = n3 := by omega
      have PR : Hid (Pre wr w4.heap.size n3 (fun t => pk m E (fe t)) (fun t => pk m E (fl t)) n3) := by have := S.out.1; rw [hkn] at this; exact this
      have B4r : Hid (Below w4.heap.size w4 wr) := S.out.2
      have B0r : Hid (Below W.heap.size W wr) := B4.out.trans (B4r.out.mono B4.out.size)
      clear hkn S
      obtain ⟨fifo, hfifo⟩ : ∃ fifo, fifo = decide (d = 1) := ⟨_, rfl⟩
      have CV : Hid (Calls Try.prog 22 #[.slice (some ⟨hr, 0, none⟩) m m, .int .u8 d, .slice (some ⟨w4.heap.size, 0, none⟩) n3 n3] wr fun e w' => Vpre (lg ev nm n0 bm E F m) fifo n3 (fun t => pk m E (fe t)) (fun t => pk m E (fl t)) wr e w') := by
        rw [hfifo]
        exact vpre_any (lg ev nm n0 bm E F m) wr (some ⟨hr, 0, none⟩) m d w4.heap.size n3 _ _ (L4.out.below B4r.out) (R4'.out.below B4r.out) hm4 PR.out hn3 HD.out
      go_wp2_with fail
      refine CV.out.mono ?_
      rintro e w5 ⟨ag, NG, cg, G, rfl, hG, hNG, hGot, hb5⟩
      have HG : Hid (GOk (lg ev nm n0 bm E F m) fifo m G ∧ NG = n3 + allN G m ∧ GotAt (lg ev nm n0 bm E F m) w5 ag NG n3 m (fun t => pk m E (fe t)) (fun t => pk m E (fl t)) (allN G) (fun i => (G i).length) (fun i s => (G i)[s]?.getD 0)) := ⟨hG, hNG, hGot⟩
      have B45 : Hid (Below w4.heap.size w4 w5) := B4r.out.trans (hb5.mono B4r.out.size)
      have B05 : Hid (Below W.heap.size W w5) := B0r.out.trans (hb5.mono B0r.out.size)
      clear hG hNG hGot hb5 CV PR B4r B0r
      go_upto_region 18 with fail
      go_cut [14] from 97 to 98 (fun s wx => s = .bool fifo ∧ wx = w5)
      case first =>
        by_cases hd1 : d = 1
        · subst hd1
          go_wp2_with fail
          go_meet
          case rel => exact ⟨by rw [hfifo]; rfl, rfl⟩
        · have hb1 : (d == 1) = false := by simp [hd1]
          go_wp2_with fail
          go_meet
          case rel => exact ⟨by rw [hfifo]; simp [hd1], rfl⟩
      case rest =>
      obtain ⟨rfl, rfl⟩ := hcut
      clear hfifo
      go_wp2_with fail
      refine (sendCounts_any a0 n0 c0 nm a1 m c1 ev wc hnn hm4 (R0.out.below B05.out) HDi.out (HOk.out.below B05.out)).mono ?_
      rintro e w6 ⟨gi, go, rfl, hIx, hOn, hb6⟩
      have FX : ∃ g GG, Hid (Fx5 nm n0 a1 m ev fifo g W pb hr gi go a3 n3 fe fl ag NG GG w6) := by
        have B46 : Below w4.heap.size w4 w6 := B45.out.trans (hb6.mono B45.out.size)
        have B06 := B05.out.trans (hb6.mono B05.out.size)
        obtain ⟨f1, f2, f3⟩ := HG.out
        refine ⟨lg ev nm n0 bm E F m, fun i s => (G i)[s]?.getD 0, ⟨B06, HOk.out.below B06, L4.out.below B46, rfl, A4.out.keep (B46.block _ A4.out.lt), R4'.out.below B46, hIx, hOn, H3.out.below B06, (f3.below hb6).congr (fun i hi => allN_tot f1 i (by omega)) (fun i hi => f1.len hi), by rw [f2, allN_tot f1 m (Nat.le_refl _)], gg_mem f1, gg_inj f1, gg_srt f1⟩⟩
      obtain ⟨g, GG, FX⟩ := FX
      clear hIx hOn hb6 HG B4 L4 R4' A4 B45 B05 HDi HOk HS R0 L0 H1 HM HL HD H3 L3 hd
      obtain ⟨p, hp⟩ : ∃ p, p = ovB nm n0 ev fifo := ⟨_, rfl⟩
      have HP : Hid (p = ovB nm n0 ev fifo) := hp
      clear hp
      have TB : Hid (∀ i, i < m → tot p m i + m ≤ 1048576) := fun i hi => by
        have h1 := tot_le p m i
        have h3 : (i + 1) * m ≤ 1024 * 1024 := Nat.mul_le_mul (by omega) hm4
        rw [Nat.succ_mul] at h3
        omega
      have hmk56 := run_mk1 (P := Try.prog) 56 3 _ 8 Try.underlying56 info3 rfl m (by omega) (by omega)
      have S0 : Hid (Below w6.heap.size w6 (w6.alloc (.cells (madeCells #[.int .i64 0] m) 3)) ∧ Cnt (w6.alloc (.cells (madeCells #[.int .i64 0] m) 3)) w6.heap.size m p 0 0) := ⟨below_alloc w6 _, Cnt.start w6 m p⟩
      go_wp2_with fail
      go_loopg [19, 20] m (fun kx s t wr => ∃ i : Nat, i ≤ m ∧ t = .int .i64 i ∧ s = .int .i64 (tot p m i : Nat) ∧ m - i ≤ kx ∧ Hid (Below w6.heap.size w6 wr ∧ Cnt wr w6.heap.size m p i 0))
      case atStart => exact ⟨0, Nat.zero_le _, rfl, rfl, by omega, S0.out⟩
      case round =>
        clear S0
        obtain ⟨i, hi, rfl, rfl, hkx, S⟩ := hrel
        by_cases hlt : i < m
        · have hti := TB.out i hlt
          have HT : Hid (∀ c, c = cnB (p i) m → tot p m i + c = tot p m (i + 1)) := fun c hc => by rw [tot, hc]
          generalize tot p m i = ti at *
          clear hmk56
          go_wp2_with fail
          go_loopg [21] m (fun ky s wx => ∃ j c : Nat, j ≤ m ∧ s = .int .i64 j ∧ c ≤ j ∧ m - j ≤ ky ∧ Hid (c = cnB (p i) j ∧ Below w6.heap.size w6 wx ∧ Cnt wx w6.heap.size m p i c))
          case atStart => exact ⟨0, 0, Nat.zero_le _, rfl, Nat.le_refl _, by omega, by simp [cnB], S.out⟩
          case round =>
            clear S
            obtain ⟨j, c, hj, rfl, hcj, hky, S⟩ := hrel
            by_cases hlj : j < m
            · have FW := FX.out.below S.out.2.1
              have CO : Hid (Calls Try.prog 24 #[.slice a1 m c1, .slice (some ⟨gi, 0, none⟩) m m, .slice (some ⟨go, 0, none⟩) m m, .bool fifo, .int .i64 i, .int .i64 j] wr fun e w' => e = .returned (.bool (ovB nm n0 ev fifo i j)) ∧ Below wr.heap.size wr w') :=
                overtakes_any nm n0 a1 m c1 ev (some ⟨gi, 0, none⟩) (some ⟨go, 0, none⟩) m m fifo i j wr hnn hm4 FW.evs FW.ixr FW.onr hlt hlj
              clear FW
              cases hov : ovB nm n0 ev fifo i j with
              | false =>
                rw [hov] at CO
                have hpj : p i j = false := by rw [HP.out]; exact hov
                clear hov
                go_wp2_with fail
                refine CO.out.mono ?_
                rintro e w' ⟨rfl, hb⟩
                have NS : Hid (c = cnB (p i) (j + 1) ∧ Below w6.heap.size w6 w' ∧ Cnt w' w6.heap.size m p i c) := by
                  obtain ⟨s1, s2, s3⟩ := S.out
                  exact ⟨by rw [cnB_succ, hpj, ← s1]; rfl, s2.trans (hb.mono s2.size), s3.below hb s3.lt⟩
                clear S hb CO hpj
                go_wp2
                go_roundg (m - (j + 1))
                case measure => omega
                case rel => exact ⟨j + 1, c, by omega, by go_num, by omega, Nat.le_refl _, NS.out⟩
              | true =>
                rw [hov] at CO
                have hpj : p i j = true := by rw [HP.out]; exact hov
                clear hov
                go_wp2_with fail
                refine CO.out.mono ?_
                rintro e w' ⟨rfl, hb⟩
                have C2 : Cnt w' w6.heap.size m p i c := S.out.2.2.below hb S.out.2.2.lt
                obtain ⟨y0, z0⟩ := C2.cellI hlt
                have NS : Hid (c + 1 = cnB (p i) (j + 1) ∧ Below w6.heap.size w6 (w'.setCell ⟨w6.heap.size, i, none⟩ (.int .i64 ((c : Int) + 1))) ∧ Cnt (w'.setCell ⟨w6.heap.size, i, none⟩ (.int .i64 ((c : Int) + 1))) w6.heap.size m p i (c + 1)) := by
                  obtain ⟨s1, s2, s3⟩ := S.out
                  exact ⟨by rw [cnB_succ, hpj, ← s1]; rfl, (s2.trans (hb.mono s2.size)).setCell (p := ⟨w6.heap.size, i, none⟩) (Nat.le_refl _) _, C2.inc hlt⟩
                clear S hb CO hpj C2
                go_wp2
                go_roundg (m - (j + 1))
                case measure => omega
                case rel => exact ⟨j + 1, c + 1, by omega, by go_num, by omega, Nat.le_refl _, NS.out⟩
            · have hjm : j = m := by omega
              obtain ⟨s1, s2, s3⟩ := S.out
              rw [hjm] at s1
              obtain ⟨y0, z0⟩ := s3.cellI hlt
              have NE : Hid (ti + c = tot p m (i + 1)) := HT.out c s1
              have NS : Hid (Below w6.heap.size w6 wr ∧ Cnt wr w6.heap.size m p (i + 1) 0) := ⟨s2, s3.next s1⟩
              clear S s1 s2 s3 hjm HT
              go_wp2
              go_roundg (m - (i + 1))
              case measure => omega
              case rel => exact ⟨i + 1, by omega, by go_num, by rw [← NE.out]; go_num, Nat.le_refl _, NS.out⟩
        · have him : i = m := by omega
          obtain ⟨tt, htt⟩ : ∃ tt, tt = tot p m i := ⟨_, rfl⟩
          rw [← htt]
          have hNG : (NG : Int) = (n3 : Int) + (tt : Int) := by
            have h1 := FX.out.ng
            rw [htt, him, HP.out]
            omega
          have HNG : Hid ((NG : Int) = (n3 : Int) + (tt : Int)) := hNG
          have htb : tt ≤ 1048576 := by
            have h1 := tot_le p m i
            have h3 : i * m ≤ 1024 * 1024 := Nat.mul_le_mul (by omega) hm4
            omega
          have S2 : Hid (Below w6.heap.size w6 wr ∧ Cnt wr w6.heap.size m p m 0) := by have := S.out; rw [him] at this; exact this
          have hge : n3 ≤ NG := by omega
          clear S htt him hkx
          have hne : ((NG : Int) != (n3 : Int) + (tt : Int)) = false := by rw [hNG]; simp
          go_wp2_with fail
          go_loopg [22] n3 (fun kx s wx => ∃ t : Nat, t ≤ n3 ∧ s = .int .i64 t ∧ n3 - t ≤ kx ∧ Hid (Below w6.heap.size w6 wx ∧ Cnt wx w6.heap.size m p m 0))
          case atStart => exact ⟨0, Nat.zero_le _, rfl, by omega, S2.out⟩
          case round =>
            clear S2 hNG hne
            obtain ⟨t, ht, rfl, hkx, S⟩ := hrel
            by_cases hlu : t < n3
            · have FW := FX.out.below S.out.1
              obtain ⟨b3, o3, ha3, x0, x1⟩ := FW.fnd.at hlu
              obtain ⟨bg, og, hag, k0, k1⟩ : ∃ bg og, ag = some ⟨bg, og, none⟩ ∧ wr.cell? ⟨bg, og + t * 2, none⟩ = some (.pointer (pkp m g.E (fe t))) ∧ wr.cell? ⟨bg, og + t * 2 + 1, none⟩ = some (.pointer (pkp m g.E (fl t))) := by
                rcases FW.got with h | ⟨b, o, h1, h2, h3, h4⟩
                · omega
                · exact ⟨b, o, h1, h3 t hlu⟩
              have CP0 : Hid (∀ k, Calls Try.prog 21 #[.slice (some ⟨hr, 0, none⟩) m m, .int .i64 (fe t)] (wr.drewN k) fun e w' => e = .returned (.pointer (pkp m g.E (fe t))) ∧ w' = wr.drewN k) := fun k =>
                pick_any (some ⟨hr, 0, none⟩) m m g.E (fe t) _ hm4 (FW.hrow.below (below_drewN (Below.refl _ _) _))
              have CP1 : Hid (∀ k, Calls Try.prog 21 #[.slice (some ⟨hr, 0, none⟩) m m, .int .i64 (fl t)] (wr.drewN k) fun e w' => e = .returned (.pointer (pkp m g.E (fl t))) ∧ w' = wr.drewN k) := fun k =>
                pick_any (some ⟨hr, 0, none⟩) m m g.E (fl t) _ hm4 (FW.hrow.below (below_drewN (Below.refl _ _) _))
              have n1 := neq_same (pkp m g.E (fe t))
              have n2 := neq_same (pkp m g.E (fl t))
              subst ha3
              subst hag
              clear FW
              generalize pkp m g.E (fe t) = q0 at *
              generalize pkp m g.E (fl t) = q1 at *
              generalize hf0 : fe t = f0 at *
              generalize hf1 : fl t = f1 at *
              clear hf0 hf1
              go_wp2
              go_quiet (first | (go_at_call_of 21 f0; exact Calls.quiet_of_same (CP0.out _)) | (go_at_call_of 21 f1; exact Calls.quiet_of_same (CP1.out _)))
              go_wp2
              go_roundg (n3 - (t + 1))
              case measure => omega
              case rel => exact ⟨t + 1, by omega, by go_num, Nat.le_refl _, below_drewN S.out.1 _, S.out.2.drewN _⟩
            · have FX8 : Hid (Fx5 nm n0 a1 m ev fifo g W pb hr gi go a3 n3 fe fl ag NG GG wr) := FX.out.below S.out.1
              have CN8 : Hid (Cnt wr w6.heap.size m p m 0) := S.out.2
              obtain ⟨w8, hw8⟩ : ∃ w8, w8 = wr := ⟨_, rfl⟩
              rw [← hw8] at FX8 CN8 ⊢
              have B80 : Hid (w6.heap.size < w8.heap.size) := CN8.out.lt
              clear S hw8 FX hkx
              have S8 : Hid (Below w8.heap.size w8 (w8.alloc (.cells (madeCells #[.int .i64 0] m) 3)) ∧ Mks (w8.alloc (.cells (madeCells #[.int .i64 0] m) 3)) w8.heap.size m GG 0 0) := ⟨below_alloc w8 _, Mks.start w8 m GG⟩
              go_wp2_with fail
              go_loopg [24, 25] m (fun kx s t wx => ∃ i : Nat, i ≤ m ∧ t = .int .i64 i ∧ s = .int .i64 (n3 + tot p m i : Nat) ∧ m - i ≤ kx ∧ Hid (Below w8.heap.size w8 wx ∧ Mks wx w8.heap.size m GG i 0))
              case atStart => exact ⟨0, Nat.zero_le _, rfl, by simp [tot], by omega, S8.out⟩
              case round =>
                clear S8 hmk56
                obtain ⟨i, hi, rfl, rfl, hkx, S⟩ := hrel
                by_cases hlt : i < m
                · have hti := TB.out i hlt
                  obtain ⟨ci, hci⟩ : ∃ ci, ci = cnB (p i) m := ⟨_, rfl⟩
                  obtain ⟨ai, hai⟩ : ∃ ai, ai = n3 + tot p m i := ⟨_, rfl⟩
                  have HC : Hid (ci = cnB (p i) m) := hci
                  have HA : Hid (ai = n3 + tot p m i) := hai
                  have HT : Hid (ai + ci = n3 + tot p m (i + 1)) := by rw [hai, hci, tot]; exact Nat.add_assoc _ _ _
                  have hcm : ci ≤ m := by rw [hci]; exact cnB_le _ _
                  have ham : ai + m ≤ 2000000 := by omega
                  rw [← hai]
                  clear hci hai hti
                  have HCC : Hid (∀ wx, Below w8.heap.size w8 wx → wx.cell? ⟨w6.heap.size, i, none⟩ = some (.int .i64 (ci : Nat))) := fun wx hb => by
                    rw [hb.cell B80.out, HC.out]; exact CN8.out.done hlt
                  go_wp2_with fail
                  go_loopg [26] ci (fun ky s wx => ∃ q : Nat, q ≤ ci ∧ s = .int .i64 (ai + q : Nat) ∧ ci - q ≤ ky ∧ Hid (Below w8.heap.size w8 wx ∧ Mks wx w8.heap.size m GG i q))
                  case atStart => exact ⟨0, Nat.zero_le _, by simp, by omega, S.out⟩
                  case round =>
                    clear S
                    obtain ⟨q, hq, rfl, hky, S⟩ := hrel
                    have cc := HCC.out _ S.out.1
                    by_cases hlq : q < ci
                    · have FW := FX8.out.below S.out.1
                      have hq' : q < cnB (ovB nm n0 ev fifo i) m := by rw [← HP.out, ← HC.out]; exact hlq
                      have hbd : ai + q < NG := by
                        have h1 := tot_lt hq' m hlt
                        have h2 := FW.ng
                        have h3 := HA.out
                        rw [HP.out] at h3
                        omega
                      have hbdi : ((ai + q : Nat) : Int) < (NG : Int) := by omega
                      obtain ⟨hjm, hov⟩ := FW.mem i q hlt hq'
                      have hae : ai = n3 + tot (ovB nm n0 ev fifo) m i := by rw [← HP.out]; exact HA.out
                      obtain ⟨bg, og, hag, k0, k1⟩ := FW.pair hlt hq' hae
                      have HAE : Hid (ai = n3 + tot (ovB nm n0 ev fifo) m i) := hae
                      clear hae
                      have hrc : wr.cell? ⟨hr, i, none⟩ = some (.pointer (some ⟨g.E i, 0, none⟩)) := FW.hrow.at0 hlt
                      have n1 := neq_same (some ⟨g.E i, 0, none⟩)
                      have hgm := FW.gm
                      have PL : Hid (∀ W', Below wr.heap.size wr W' → ∀ j, j < m → (Instr.lookup 45 (.map (some pb)) (.pointer (some ⟨g.E j, 0, none⟩)) true).run Try.prog W' = .ok (.tuple #[.int .i64 (j : Nat), .bool true]) W' ∧ (Instr.lookup 45 (.map (some pb)) (.pointer (some ⟨g.E j, 0, none⟩)) false).run Try.prog W' = .ok (.int .i64 (j : Nat)) W') := fun W' hb j hj =>
                        pos_look (FW.below hb).pos (FW.below hb).log (by rw [hgm]; exact hj)
                      have CO : Hid (∀ W', Below wr.heap.size wr W' → Calls Try.prog 24 #[.slice a1 m c1, .slice (some ⟨gi, 0, none⟩) m m, .slice (some ⟨go, 0, none⟩) m m, .bool fifo, .int .i64 i, .int .i64 (GG i q : Nat)] W' fun e w' => e = .returned (.bool true) ∧ Below W'.heap.size W' w') := fun W' hb => by
                        have := overtakes_any nm n0 a1 m c1 ev (some ⟨gi, 0, none⟩) (some ⟨go, 0, none⟩) m m fifo i (GG i q) W' hnn hm4 (FW.below hb).evs (FW.below hb).ixr (FW.below hb).onr hlt hjm
                        rw [hov] at this
                        exact this
                      have hno : ∀ r, r < q → GG i r ≠ GG i q := fun r hr' => FW.inj i r q hlt hr' hq'
                      have p1 : ∀ k, (Instr.lookup 45 (.map (some pb)) (.pointer (some ⟨g.E (GG i q), 0, none⟩)) true).run Try.prog (wr.drewN k) = .ok (.tuple #[.int .i64 (GG i q : Nat), .bool true]) (wr.drewN k) := fun k => (PL.out _ (below_drewN (Below.refl _ _) k) _ hjm).1
                      subst hag
                      clear hgm FW
                      go_wp2
                      go_quiet (fail)
                      go_wp2_with fail
                      refine (CO.out _ (below_drewN (Below.refl _ _) _)).mono ?_
                      rintro e w' ⟨rfl, hb⟩
                      have B' : Below wr.heap.size wr w' := (below_drewN (Below.refl _ wr) nq).trans hb
                      have M' : Mks w' w8.heap.size m GG i q := S.out.2.below B' (by obtain ⟨_, h, _⟩ := S.out.2; exact h.lt)
                      obtain ⟨x, hx, y0, z0⟩ := M'.cellJ hjm hno
                      have hxb : ((x : Int) == (i : Int) + 1) = false := by
                        rw [beq_eq_false_iff_ne]; omega
                      have hxn : ¬ (x : Int) = (i : Int) + 1 := by omega
                      have NS : Hid (Below w8.heap.size w8 (w'.setCell ⟨w8.heap.size, GG i q, none⟩ (.int .i64 ((i : Int) + 1))) ∧ Mks (w'.setCell ⟨w8.heap.size, GG i q, none⟩ (.int .i64 ((i : Int) + 1))) w8.heap.size m GG i (q + 1)) :=
                        ⟨(S.out.1.trans (B'.mono S.out.1.size)).setCell (p := ⟨w8.heap.size, GG i q, none⟩) (Nat.le_refl _) _, M'.set hjm⟩
                      clear B' M' hb CO PL k0 k1 n1 p1 hrc cc S
                      by_cases hq0 : q = 0
                      · have hgt : ¬ ((ai + q : Nat) : Int) > (ai : Int) := by omega
                        have hgt2 : ¬ (ai : Int) < (ai : Int) + (q : Int) := by omega
                        clear hq0
                        go_wp2
                        go_roundg (ci - (q + 1))
                        case measure => omega
                        case rel => exact ⟨q + 1, by omega, by go_num, Nat.le_refl _, NS.out⟩
                      · obtain ⟨r, rfl⟩ : ∃ r, q = r + 1 := ⟨q - 1, by omega⟩
                        have hgt : ((ai + (r + 1) : Nat) : Int) > (ai : Int) := by omega
                        have FW := FX8.out.below NS.out.1
                        have hr1 : r < cnB (ovB nm n0 ev fifo i) m := by omega
                        obtain ⟨bg', og', hag, _, k1⟩ := FW.pair hlt hr1 HAE.out
                        obtain ⟨rfl, rfl⟩ : bg = bg' ∧ og = og' := by
                          have := Option.some.inj hag
                          injection this with e1 e2
                          exact ⟨e1, e2⟩
                        obtain ⟨hrm, _⟩ := FW.mem i r hlt hr1
                        have p0 := (pos_look FW.pos FW.log (by rw [FW.gm]; exact hrm)).2
                        simp only [Log.pt] at p0
                        have hsr := FW.srt i r hlt hq'
                        obtain ⟨b1, o1, ha1, X⟩ := FW.evs.at_.at hjm
                        obtain ⟨b1', o1', ha1', Y⟩ := FW.evs.at_.at hrm
                        subst ha1
                        obtain ⟨rfl, rfl⟩ : b1 = b1' ∧ o1 = o1' := by
                          have := Option.some.inj ha1'
                          injection this with e1 e2
                          exact ⟨e1, e2⟩
                        clear ha1' hag FW
                        obtain ⟨w2, hw2⟩ : ∃ w2, w2 = w'.setCell ⟨w8.heap.size, GG i (r + 1), none⟩ (.int .i64 ((i : Int) + 1)) := ⟨_, rfl⟩
                        have CC : Hid (∀ dd os, Calls Try.prog 25 #[.agg #[.string (ev (GG i (r + 1))).host, .int .u64 (ev (GG i (r + 1))).lam, .bool (ev (GG i (r + 1))).z, .int .u32 (ev (GG i (r + 1))).own, .int .u32 (ev (GG i (r + 1))).nn, .slice (ev (GG i (r + 1))).a (ev (GG i (r + 1))).len (ev (GG i (r + 1))).cap], .agg #[.string (ev (GG i r)).host, .int .u64 (ev (GG i r)).lam, .bool (ev (GG i r)).z, .int .u32 (ev (GG i r)).own, .int .u32 (ev (GG i r)).nn, .slice (ev (GG i r)).a (ev (GG i r)).len (ev (GG i r)).cap]] (grow (redrawn w2 dd) os) fun e w'' => e = .returned (.bool false) ∧ ∃ p : Regrown, w'' = grow (redrawn w2 p.d) p.os) := fun dd os => by
                          have h1 := keyLess_any (ev (GG i (r + 1))) (ev (GG i r)) (grow (redrawn w2 dd) os)
                          rw [hsr] at h1
                          exact Calls.regrown_of h1
                        go_wp2_with fail
                        rw [← hw2] at X Y NS ⊢
                        clear hw2 y0 z0 k1 p0
                        have x1 := fun dd os => cell_regrown X.c1 dd os
                        have x2 := fun dd os => cell_regrown X.c2 dd os
                        have x3 := fun dd os => cell_regrown X.c3 dd os
                        have x4 := fun dd os => cell_regrown X.c4 dd os
                        have x5 := fun dd os => cell_regrown X.c5 dd os
                        have x6 := fun dd os => cell_regrown X.c6 dd os
                        have y1 := fun dd os => cell_regrown Y.c1 dd os
                        have y2 := fun dd os => cell_regrown Y.c2 dd os
                        have y3 := fun dd os => cell_regrown Y.c3 dd os
                        have y4 := fun dd os => cell_regrown Y.c4 dd os
                        have y5 := fun dd os => cell_regrown Y.c5 dd os
                        have y6 := fun dd os => cell_regrown Y.c6 dd os
                        have NR : Hid (∀ dd os, Below w8.heap.size w8 (grow (redrawn w2 dd) os) ∧ Mks (grow (redrawn w2 dd) os) w8.heap.size m GG i (r + 1 + 1)) := fun dd os => by
                          obtain ⟨s1, s2⟩ := NS.out
                          have hb := below_regrown w2 dd os
                          exact ⟨s1.trans (hb.mono s1.size), s2.below hb (by obtain ⟨_, h, _⟩ := s2; exact h.lt)⟩
                        clear X Y NS hsr
                        generalize ev (GG i (r + 1)) = e1 at *
                        generalize ev (GG i r) = e2 at *
                        refine wp_region_quiet_below (by kernel_rfl) (by kernel_rfl) ?_
                        repeat (quiet_step (first | (go_at_call 25; exact CC.out _ _)))
                        refine wpQuiet_nil ?_
                        intro _ hw'
                        obtain ⟨⟨dq, osq⟩, hw''⟩ := hw'
                        rw [hw'']
                        clear hw''
                        go_wp2
                        go_roundg (ci - (r + 1 + 1))
                        case measure => omega
                        case rel => exact ⟨r + 1 + 1, by omega, by go_num, Nat.le_refl _, NR.out dq osq⟩
                    · have hqc : q = ci := by omega
                      have hcq : Hid (ai + ci = n3 + tot p m (i + 1)) := HT.out
                      have NS : Hid (Below w8.heap.size w8 wr ∧ Mks wr w8.heap.size m GG (i + 1) 0) := ⟨S.out.1, S.out.2.next⟩
                      clear S hqc
                      go_wp2
                      go_roundg (m - (i + 1))
                      case measure => omega
                      case rel => exact ⟨i + 1, by omega, by go_num, by rw [← hcq.out]; go_num, Nat.le_refl _, NS.out⟩
                · go_wp2
                  go_ret
                  exact ⟨rfl, FX8.out.bel.trans (S.out.1.mono FX8.out.bel.size)⟩

end Go.Proofs.Qxb6609005a
