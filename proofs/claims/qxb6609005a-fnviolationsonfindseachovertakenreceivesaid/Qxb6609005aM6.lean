import Derived.Test.Qxb6609005aD2
import Derived.Test.Qxb6609005aC2
import Derived.BigQuiet
import Derived.Deep.RegionWith
namespace Go.Proofs.Qxb6609005a
open Go.RowKit Go.WideMaps Go.Maps Go.Sort
set_option linter.unusedSimpArgs false
set_option linter.unusedVariables false
set_option linter.unusedSectionVars false

/-- the pairs that have been entered into inCausal -/
def InC (w : World) (cm : Nat) (pc : Nat → Nat × Nat) (t : Nat) : Prop := ∃ f, AMap w cm pkey (fun _ => True) f ∧ ∀ s, s < t → f (pc s) = some (.bool true)
theorem InC.step {w : World} {cm : Nat} {pc : Nat → Nat × Nat} {t : Nat} (h : InC w cm pc t) : ∃ w', (Instr.mapUpdate 65 (.map (some cm)) (.agg #[.int .i64 ((pc t).1 : Nat), .int .i64 ((pc t).2 : Nat)]) (.bool true)).run Try.prog w = .ok () w' ∧ InC w' cm pc (t + 1) ∧ Else cm w w' := by
  obtain ⟨f, h1, h2⟩ := h
  obtain ⟨w', e, hm, hel⟩ := h1.store (P := Try.prog) (T := 65) (kt := 51) (et := 4) Try.underlying65 Try.underlying51 (notnow_struct _) (eqok_pkey w) checks_pkey samebits_pkey (x := pc t) trivial (.bool true)
  refine ⟨w', e, ⟨_, hm, fun s hs => ?_⟩, hel⟩
  by_cases q : pc s = pc t
  · simp [q]
  · simp only [q, if_false]
    refine h2 s ?_
    have : s ≠ t := fun e => q (by rw [e])
    omega
theorem Rd.at0 {w : World} {g n : Nat} {f : Nat → Value} (h : Rd w (some ⟨g, 0, none⟩) n f) {i : Nat} (hi : i < n) : w.cell? ⟨g, i, none⟩ = some (f i) := by
  rcases h with h | ⟨b, o, ha, hb, hc⟩
  · omega
  · injection ha with ha
    injection ha with e1 e2
    subst e1; subst e2
    have := hc i hi
    rwa [Nat.zero_add] at this
theorem InC.look {w : World} {cm : Nat} {pc : Nat → Nat × Nat} {t : Nat} (h : InC w cm pc t) {q : Nat × Nat} (hq : ∃ s, s < t ∧ pc s = q) : (Instr.lookup 65 (.map (some cm)) (.agg #[.int .i64 (q.1 : Nat), .int .i64 (q.2 : Nat)]) false).run Try.prog w = .ok (.bool true) w := by
  obtain ⟨f, h1, h2⟩ := h
  obtain ⟨s, hs, rfl⟩ := hq
  have := (h1.look Try.underlying65 Try.underlying51 (notnow_struct _) (eqok_pkey w) checks_pkey (zero4 _) (x := pc s) trivial).1
  rw [h2 s hs] at this
  exact this

set_option maxRecDepth 100000 in
set_option maxHeartbeats 8000000 in
theorem main6 (a0 : Option Addr) (n0 c0 : Nat) (nm : Nat → ByteArray) (a1 : Option Addr) (m c1 : Nat) (ev : Nat → Ev) (W : World) (h0 : Rd W a0 n0 (fun i => .string (nm i))) (hs : ∀ i, i < n0 → (nm i).size ≤ maxLen) (l0 : n0 ≤ maxLen) (h1 : EvsAt W a1 m ev) (hm : m ≤ maxLen) :
    Calls Try.prog 6 #[.slice a0 n0 c0, .slice a1 m c1] W fun e w' => e = .returned (.bool true) ∧ Below W.heap.size W w' := by
  have hmm := @run_makeMap Try.prog
  have R0 : Hid (Rd W a0 n0 (fun i => .string (nm i))) := h0
  have HS : Hid (∀ i, i < n0 → (nm i).size ≤ maxLen) := hs
  have L0 : Hid (n0 ≤ maxLen) := l0
  have H1 : Hid (EvsAt W a1 m ev) := h1
  have HM : Hid (m ≤ maxLen) := hm
  unfold maxLen at hm
  clear h0 hs l0 h1
  go_enter Try.func6, Try.ntmps6
  go_wp2_with fail
  refine (zzBytes26 a0 n0 c0 nm a1 m c1 ev W R0.out HS.out L0.out H1.out HM.out).mono ?_
  rintro e w1 ⟨⟨r1, rfl, -⟩, hw⟩
  rw [hw]
  clear hw w1
  cases r1 with
  | false =>
    go_wp2
    go_ret
    exact ⟨rfl, Below.refl _ _⟩
  | true =>
  by_cases hm4 : m ≤ 1024
  rotate_left
  · go_wp2
    go_ret
    exact ⟨rfl, Below.refl _ _⟩
  clear hm
  have CB : Hid (Calls Try.prog 18 #[.slice a0 n0 c0, .slice a1 m c1, .int .i64 0] W fun e w' => (∃ r : Int, e = .returned (.int .i64 r) ∧ (r ≤ 1048576 → n0 ≤ 131072 ∧ ∀ i, i < m → (ev i).len ≤ 131072)) ∧ Below W.heap.size W w') :=
    hostBytes_any a0 n0 c0 nm a1 m c1 ev 0 W R0.out HS.out L0.out hm4 H1.out (by omega)
  go_wp2_with fail
  refine CB.out.mono ?_
  rintro e w2 ⟨⟨r2, rfl, hr2⟩, hb2⟩
  have B2 : Hid (Below W.heap.size W w2) := hb2
  clear hb2 CB
  by_cases hr : r2 ≤ 1048576
  rotate_left
  · clear hr2
    go_wp2
    go_ret
    exact ⟨rfl, B2.out⟩
  obtain ⟨hnn, hll⟩ := hr2 hr
  clear hr2
  have HL : Hid (∀ i, i < m → (ev i).len ≤ 131072) := hll
  clear hll
  go_wp2_with fail
  refine (hostShaped_any a0 n0 c0 nm a1 m c1 ev w2 (R0.out.below B2.out) hnn hm4 (H1.out.below B2.out) HL.out).mono ?_
  rintro e w3 ⟨⟨r3, rfl, hr3⟩, hb3⟩
  have B3 : Hid (Below W.heap.size W w3) := B2.out.trans (hb3.mono B2.out.size)
  clear hb3
  cases r3 with
  | false =>
    clear hr3
    go_wp2
    go_ret
    exact ⟨rfl, B3.out⟩
  | true =>
  have HDi : Hid (Distinct nm n0) := distinct_of (hr3 rfl).1
  have HOk : Hid (EvsOk W a1 m n0 ev) := ⟨H1.out, HL.out, (hr3 rfl).2⟩
  clear hr3 hr
  go_wp2_with fail
  refine (buildHosts_any a0 n0 c0 nm a1 m c1 ev w3 hnn hm4 (R0.out.below B3.out) HS.out (HOk.out.below B3.out)).mono ?_
  rintro e w4 ⟨bm, hr, pb, E, F, rfl, hL4, hR4, hA4, hb4⟩
  have B4 : Hid (Below W.heap.size W w4) := B3.out.trans (hb4.mono B3.out.size)
  have L4 : Hid (LogAt w4 (lg ev nm n0 bm E F m)) := hL4
  have R4' : Hid (Rd w4 (some ⟨hr, 0, none⟩) m (fun i => .pointer (some ⟨E i, 0, none⟩))) := hR4
  have A4 : Hid (AMap w4 pb (fun i => .pointer (some ⟨E i, 0, none⟩)) (fun i => i < m) (fun i => some (.int .i64 (i : Nat)))) := hA4
  have CF : Hid (Calls Try.prog 22 #[.slice (some ⟨hr, 0, none⟩) m m, .int .u8 1, .slice none 0 0] w4 fun e w' => Vio (lg ev nm n0 bm E F m) true w4 e w') :=
    vio_any (lg ev nm n0 bm E F m) w4 (some ⟨hr, 0, none⟩) m 1 hL4 hR4 hm4 (.inl rfl)
  clear hb4 hL4 hR4 hA4
  go_wp2_with fail
  refine CF.out.mono ?_
  rintro e w5 ⟨af, NF, cf, pf, GF, rfl, hGF, hRF, hNF, hF1, hF2, hb5⟩
  have B45 : Hid (Below w4.heap.size w4 w5) := hb5
  have HF : Hid (GOk (lg ev nm n0 bm E F m) true m GF ∧ RdP (lg ev nm n0 bm E F m) w5 af NF pf ∧ NF = allN GF m ∧ (∀ t, t < NF → pf t ∈ pl GF m) ∧ (∀ q ∈ pl GF m, ∃ t, t < NF ∧ pf t = q)) := ⟨hGF, hRF, hNF, hF1, hF2⟩
  clear hGF hRF hNF hF1 hF2 hb5 CF
  have CC : Hid (Calls Try.prog 22 #[.slice (some ⟨hr, 0, none⟩) m m, .int .u8 2, .slice none 0 0] w5 fun e w' => Vio (lg ev nm n0 bm E F m) false w5 e w') :=
    vio_any (lg ev nm n0 bm E F m) w5 (some ⟨hr, 0, none⟩) m 2 (L4.out.below B45.out) (R4'.out.below B45.out) hm4 (.inr rfl)
  go_wp2_with fail
  refine CC.out.mono ?_
  rintro e w6 ⟨ac, NC, cc, pc, GC, rfl, hGC, hRC, hNC, hC1, hC2, hb6⟩
  have B56 : Hid (Below w5.heap.size w5 w6) := hb6
  have HC : Hid (GOk (lg ev nm n0 bm E F m) false m GC ∧ RdP (lg ev nm n0 bm E F m) w6 ac NC pc ∧ NC = allN GC m ∧ (∀ t, t < NC → pc t ∈ pl GC m) ∧ (∀ q ∈ pl GC m, ∃ t, t < NC ∧ pc t = q)) := ⟨hGC, hRC, hNC, hC1, hC2⟩
  have B46 : Hid (Below w4.heap.size w4 w6) := B45.out.trans (hb6.mono B45.out.size)
  have B06 : Hid (Below W.heap.size W w6) := B4.out.trans (B46.out.mono B4.out.size)
  clear hGC hRC hNC hC1 hC2 hb6 CC
  go_wp2_with fail
  refine (sendCounts_any a0 n0 c0 nm a1 m c1 ev w6 hnn hm4 (R0.out.below B06.out) HDi.out (HOk.out.below B06.out)).mono ?_
  rintro e w7 ⟨gi, go, rfl, -, hOn, hb7⟩
  have FX : ∃ g, Hid (Fx6 nm n0 a1 m ev g W pb go af NF pf ac NC pc w7) := by
    have B47 : Below w4.heap.size w4 w7 := B46.out.trans (hb7.mono B46.out.size)
    have B57 : Below w5.heap.size w5 w7 := B56.out.trans (hb7.mono B56.out.size)
    obtain ⟨f1, f2, f3, f4, f5⟩ := HF.out
    obtain ⟨d1, d2, d3, d4, d5⟩ := HC.out
    have hB := B4.out.trans (B47.mono B4.out.size)
    refine ⟨lg ev nm n0 bm E F m, ⟨hB, HOk.out.below hB, L4.out.below B47, rfl, A4.out.keep (B47.block _ A4.out.lt), hOn, f2.below B57, d2.below hb7, fun t ht => pl_dom f1 (f4 t ht), fun t ht => pl_dom d1 (d4 t ht), fun t ht => d5 _ (pl_sub f1 d1 (f4 t ht)), by rw [f3]; exact allN_tot f1 m (Nat.le_refl _), by rw [d3]; exact allN_le d1⟩⟩
  obtain ⟨g, FX⟩ := FX
  clear hOn hb7 HF HC B4 L4 R4' A4 B45 B56 B46 B06 HDi HOk HS R0 L0 H1 HM B2 B3 HL hnn
  have NF2 : NF ≤ 1048576 := by
    have h1 := FX.out.tot
    have h2 := tot_le (ovB nm n0 ev true) m m
    have h3 : m * m ≤ 1024 * 1024 := Nat.mul_le_mul hm4 hm4
    omega
  have NC2 : NC ≤ 1048576 := by
    have h1 := FX.out.ncb
    have h3 : m * m ≤ 1024 * 1024 := Nat.mul_le_mul hm4 hm4
    omega
  have TB : Hid (∀ i j, i < m → j ≤ m → tot (ovB nm n0 ev true) m i + cnB (ovB nm n0 ev true i) j ≤ 1048576) := fun i j hi hj => by
    have h1 := tot_le (ovB nm n0 ev true) m i
    have h2 := cnB_le (ovB nm n0 ev true i) j
    have h3 : (i + 1) * m ≤ 1024 * 1024 := Nat.mul_le_mul (by omega) hm4
    rw [Nat.succ_mul] at h3
    omega
  go_wp2_with fail
  go_loopg [11, 12] m (fun kx s t wr => ∃ i : Nat, i ≤ m ∧ t = .int .i64 i ∧ s = .int .i64 (tot (ovB nm n0 ev true) m i : Nat) ∧ m - i ≤ kx ∧ Hid (Below w7.heap.size w7 wr))
  case atStart => exact ⟨0, Nat.zero_le _, rfl, rfl, by omega, Below.refl _ _⟩
  case round =>
    obtain ⟨i, hi, rfl, rfl, hkx, BR⟩ := hrel
    by_cases hlt : i < m
    · obtain ⟨ti, hti⟩ : ∃ ti, ti = tot (ovB nm n0 ev true) m i := ⟨_, rfl⟩
      rw [← hti]
      have HT : Hid (ti = tot (ovB nm n0 ev true) m i) := hti
      clear hti
      go_wp2_with fail
      go_loopg [11, 13] m (fun ky s t wr => ∃ j c : Nat, i + 1 ≤ j ∧ j ≤ m ∧ t = .int .i64 j ∧ s = .int .i64 (ti + c : Nat) ∧ ti + c ≤ 1048576 ∧ Hid (c = cnB (ovB nm n0 ev true i) j) ∧ m - j ≤ ky ∧ Hid (Below w7.heap.size w7 wr))
      case atStart =>
        have hz : 0 = cnB (ovB nm n0 ev true i) (i + 1) := by
          refine (cnB_zero _ _ fun j hj => ?_).symm
          cases hq : ovB nm n0 ev true i j with
          | false => rfl
          | true => have := ovB_lt hq; omega
        have hb := TB.out i 0 hlt (Nat.zero_le _)
        exact ⟨i + 1, 0, Nat.le_refl _, by omega, by go_num, by simp, by rw [HT.out]; simpa [cnB] using hb, hz, by omega, BR.out⟩
      case round =>
        clear BR
        obtain ⟨j, c, hj0, hj, rfl, rfl, hcb, HCn, hky, BR⟩ := hrel
        by_cases hlj : j < m
        · have NX : Hid (∀ b : Bool, ovB nm n0 ev true i j = b → (c + if b = true then 1 else 0) = cnB (ovB nm n0 ev true i) (j + 1)) := fun b hb => by rw [cnB_succ, HCn.out, hb]
          have NB : Hid (ti + cnB (ovB nm n0 ev true i) (j + 1) ≤ 1048576) := by rw [HT.out]; exact TB.out i (j + 1) hlt (by omega)
          obtain ⟨b1, o1, rfl, X⟩ := (FX.out.evs.below BR.out).at_.at hlt
          obtain ⟨b1', o1', ha1, Y⟩ := (FX.out.evs.below BR.out).at_.at hlj
          obtain ⟨rfl, rfl⟩ : b1 = b1' ∧ o1 = o1' := by
            have := Option.some.inj ha1
            injection this with e1 e2
            exact ⟨e1, e2⟩
          have oj : wr.cell? ⟨go, j, none⟩ = some (.int .u64 ((ev j).on nm n0)) := (FX.out.onr.below BR.out).at0 hlj
          have oi : wr.cell? ⟨go, i, none⟩ = some (.int .u64 ((ev i).on nm n0)) := (FX.out.onr.below BR.out).at0 hlt
          have HOV : Hid (ovB nm n0 ev true i j = (decide (i < j) && (ev i).rv && (ev j).rv && (decide ((ev j).host = (ev i).host) && decide ((ev j).on nm n0 ≤ (ev i).on nm n0)))) := rfl
          clear ha1
          cases hri : (ev i).rv with
          | false =>
            have x0 := X.c0
            rw [hri] at x0
            have N1 : Hid (c = cnB (ovB nm n0 ev true i) (j + 1)) := NX.out false (by rw [HOV.out, hri]; simp)
            clear X Y hri NX NB HOV HCn oj oi
            go_wp2
            go_quiet (fail)
            go_wp2
            go_roundg (m - (j + 1))
            case measure => omega
            case rel => exact ⟨j + 1, c, by omega, by omega, by go_num, rfl, hcb, N1.out, Nat.le_refl _, below_drewN BR.out _⟩
          | true =>
            cases hrj : (ev j).rv with
            | false =>
              have x0 := X.c0
              rw [hri] at x0
              have y0 := Y.c0
              rw [hrj] at y0
              have N1 : Hid (c = cnB (ovB nm n0 ev true i) (j + 1)) := NX.out false (by rw [HOV.out, hrj]; simp)
              clear X Y hri hrj NX NB HOV HCn oj oi
              go_wp2
              go_quiet (fail)
              go_wp2
              go_roundg (m - (j + 1))
              case measure => omega
              case rel => exact ⟨j + 1, c, by omega, by omega, by go_num, rfl, hcb, N1.out, Nat.le_refl _, below_drewN BR.out _⟩
            | true =>
              have x0 := X.c0
              rw [hri] at x0
              have y0 := Y.c0
              rw [hrj] at y0
              have x1 := X.c1
              have y1 := Y.c1
              have HOV2 : Hid (ovB nm n0 ev true i j = (((ev i).host.toList == (ev j).host.toList) && decide ((ev j).on nm n0 ≤ (ev i).on nm n0))) := by
                have h1 : ((ev i).host.toList == (ev j).host.toList) = decide ((ev j).host = (ev i).host) := by
                  rw [host_beq]
                  by_cases e : (ev i).host = (ev j).host
                  · simp [e]
                  · have e' : ¬ (ev j).host = (ev i).host := fun q => e q.symm
                    simp [e, e']
                have h2 : ovB nm n0 ev true i j = (((ev i).host.toList == (ev j).host.toList) && decide ((ev j).on nm n0 ≤ (ev i).on nm n0)) := by
                  rw [HOV.out, hri, hrj, h1, decide_eq_true (show i < j by omega)]; simp
                exact h2
              clear X Y hri hrj HOV HCn
              generalize (ev j).on nm n0 = onj at *
              generalize (ev i).on nm n0 = oni at *
              generalize (ev j).host = hj' at *
              generalize (ev i).host = hi' at *
              cases hq : (hi'.toList == hj'.toList) with
              | false =>
                have N1 : Hid (c = cnB (ovB nm n0 ev true i) (j + 1)) := NX.out false (by rw [HOV2.out, hq]; rfl)
                clear NX NB HOV2 oj oi
                go_wp2
                go_quiet (fail)
                go_wp2
                go_roundg (m - (j + 1))
                case measure => omega
                case rel => exact ⟨j + 1, c, by omega, by omega, by go_num, rfl, hcb, N1.out, Nat.le_refl _, below_drewN BR.out _⟩
              | true =>
                by_cases hle : onj ≤ oni
                · have N1 : Hid (c + 1 = cnB (ovB nm n0 ev true i) (j + 1)) := NX.out true (by rw [HOV2.out, hq]; simp [hle])
                  have N2 : ti + (c + 1) ≤ 1048576 := by have := NB.out; rw [← N1.out] at this; exact this
                  clear NX NB HOV2
                  go_wp2
                  go_quiet (fail)
                  go_wp2
                  go_roundg (m - (j + 1))
                  case measure => omega
                  case rel => exact ⟨j + 1, c + 1, by omega, by omega, by go_num, by go_num, N2, N1.out, Nat.le_refl _, below_drewN BR.out _⟩
                · have N1 : Hid (c = cnB (ovB nm n0 ev true i) (j + 1)) := NX.out false (by rw [HOV2.out, hq]; simp [hle])
                  clear NX NB HOV2
                  go_wp2
                  go_quiet (fail)
                  go_wp2
                  go_roundg (m - (j + 1))
                  case measure => omega
                  case rel => exact ⟨j + 1, c, by omega, by omega, by go_num, rfl, hcb, N1.out, Nat.le_refl _, below_drewN BR.out _⟩
        · have hjm : j = m := by omega
          have NE : Hid (ti + c = tot (ovB nm n0 ev true) m (i + 1)) := by
            have h1 : ti + c = tot (ovB nm n0 ev true) m (i + 1) := by rw [tot, HT.out, HCn.out, hjm]
            exact h1
          clear hjm HCn HT
          go_wp2
          go_roundg (m - (i + 1))
          case measure => omega
          case rel => exact ⟨i + 1, by omega, by go_num, by rw [NE.out], Nat.le_refl _, BR.out⟩
    · have him : i = m := by omega
      have TE : tot (ovB nm n0 ev true) m i = NF := by rw [him]; exact FX.out.tot.symm
      rw [TE]
      clear TE him hkx TB
      have CM : Hid (w7.heap.size ≤ wr.heap.size) := BR.out.size
      have S0 : Hid (Below w7.heap.size w7 (wr.alloc (.map #[] 0)) ∧ InC (wr.alloc (.map #[] 0)) wr.heap.size pc 0) := ⟨BR.out.alloc BR.out.size _, _, AMap.new wr, fun s hs => by omega⟩
      go_wp2_with fail
      generalize wr.heap.size = cm at *
      go_loopg [15] NC (fun kx s wx => ∃ t : Nat, t ≤ NC ∧ s = .int .i64 t ∧ NC - t ≤ kx ∧ Hid (Below w7.heap.size w7 wx ∧ InC wx cm pc t))
      case atStart => exact ⟨0, Nat.zero_le _, rfl, by omega, S0.out⟩
      case round =>
        clear S0 BR
        obtain ⟨t, ht, rfl, hkx, S⟩ := hrel
        by_cases hlt : t < NC
        · have FW := FX.out.below S.out.1
          obtain ⟨bc, oc, rfl, k0, k1⟩ := FW.cau.at hlt
          have p0 := (pos_look FW.pos FW.log (by rw [FW.gm]; exact (FW.cdom t hlt).1)).1
          have p1 := (pos_look FW.pos FW.log (by rw [FW.gm]; exact (FW.cdom t hlt).2)).1
          obtain ⟨w', hu, hI, hel⟩ := S.out.2.step
          have NS : Hid (Below w7.heap.size w7 w' ∧ InC w' cm pc (t + 1)) := ⟨(Keep.of_else (S := fun b => b = cm) hel rfl).below S.out.1 (fun b e => by rw [e]; exact CM.out), hI⟩
          simp only [Log.pt] at k0 k1 p0 p1
          clear FW S hI hel
          generalize (pc t).1 = qe at *
          generalize (pc t).2 = ql at *
          go_wp2
          go_roundg (NC - (t + 1))
          case measure => omega
          case rel => exact ⟨t + 1, by omega, by go_num, Nat.le_refl _, NS.out⟩
        · have htm : t = NC := by omega
          subst htm
          go_wp2_with fail
          go_loopg [20] NF (fun kx s wy => ∃ u : Nat, u ≤ NF ∧ s = .int .i64 u ∧ NF - u ≤ kx ∧ Hid (Below w7.heap.size w7 wy ∧ InC wy cm pc t))
          case atStart => exact ⟨0, Nat.zero_le _, rfl, by omega, S.out⟩
          case round =>
            clear S
            obtain ⟨u, hu, rfl, hkx, S⟩ := hrel
            by_cases hlu : u < NF
            · have FW := FX.out.below S.out.1
              obtain ⟨bc, oc, rfl, k0, k1⟩ := FW.fif.at hlu
              have p0 := (pos_look FW.pos FW.log (by rw [FW.gm]; exact (FW.fdom u hlu).1)).1
              have p1 := (pos_look FW.pos FW.log (by rw [FW.gm]; exact (FW.fdom u hlu).2)).1
              have p2 := S.out.2.look (FW.fin u hlu)
              simp only [Log.pt] at k0 k1 p0 p1
              clear FW
              generalize (pf u).1 = qe at *
              generalize (pf u).2 = ql at *
              go_wp2
              go_roundg (NF - (u + 1))
              case measure => omega
              case rel => exact ⟨u + 1, by omega, by go_num, Nat.le_refl _, S.out⟩
            · go_wp2
              go_ret
              exact ⟨rfl, FX.out.bel.trans (S.out.1.mono FX.out.bel.size)⟩

end Go.Proofs.Qxb6609005a
