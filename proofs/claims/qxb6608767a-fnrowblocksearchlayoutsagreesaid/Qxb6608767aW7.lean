import Derived.Test.Qxb6608767aW6
import Derived.Deep.DeepCutAuto
import Derived.Laws.CopyOwn
namespace Go.Proofs.Qxb6608767a
open Go.RowKit
set_option linter.unusedSimpArgs false
set_option linter.unusedVariables false

set_option maxRecDepth 100000 in
set_option maxHeartbeats 1000000 in
theorem main_ordered (a0 a1 : Option Addr) (x2 : Addr) (n0 c0 n1 c1 n2 c2 : Nat) (nm : Nat → ByteArray) (vl od : Nat → Int) (q : ByteArray) (w : World)
    (h0 : Rd w a0 n0 (fun i => .string (nm i))) (hs : ∀ i, i < n0 → (nm i).size ≤ maxLen) (h1 : Rd w a1 n1 (fun i => .int .i64 (vl i))) (h2 : Rd w (some x2) n2 (fun i => .int .u16 (od i)))
    (l0 : n0 ≤ maxLen) (l1 : n1 ≤ maxLen) (l2 : n2 ≤ maxLen) (lq : q.size ≤ maxLen) (z0 : a0 = none → n0 = 0) (z1 : a1 = none → n1 = 0) :
    Calls Try.prog 3 #[.slice a0 n0 c0, .slice a1 n1 c1, .slice (some x2) n2 c2, .string q] w fun e w' => e = .returned (.bool true) ∧ Below w.heap.size w w' := by
  have q22 : ∀ (w : World) (a : Option Addr) (n c n' c' : Nat), (binOp .neq 22 (.slice a n c) (.slice none n' c')).run Try.prog w = .ok (.bool (!a.isNone)) w := fun w a n c n' c' => run_neq_slice_nil_any w _ _ a n c n' c' Try.underlying22
  have q23 : ∀ (w : World) (a : Option Addr) (n c n' c' : Nat), (binOp .neq 23 (.slice a n c) (.slice none n' c')).run Try.prog w = .ok (.bool (!a.isNone)) w := fun w a n c n' c' => run_neq_slice_nil_any w _ _ a n c n' c' Try.underlying23
  have q24 : ∀ (w : World) (a : Option Addr) (n c n' c' : Nat), (binOp .neq 24 (.slice a n c) (.slice none n' c')).run Try.prog w = .ok (.bool (!a.isNone)) w := fun w a n c n' c' => run_neq_slice_nil_any w _ _ a n c n' c' Try.underlying24
  have H0 : Hid (Rd w a0 n0 (fun i => .string (nm i))) := h0
  have H1 : Hid (Rd w a1 n1 (fun i => .int .i64 (vl i))) := h1
  have H2 : Hid (Rd w (some x2) n2 (fun i => .int .u16 (od i))) := h2
  have HS : Hid (∀ i, i < n0 → (nm i).size ≤ maxLen) := hs
  have Z0 : Hid (a0 = none → n0 = 0) := z0
  have Z1 : Hid (a1 = none → n1 = 0) := z1
  clear z0 z1
  have LM : Hid (n0 ≤ maxLen ∧ n1 ≤ maxLen ∧ q.size ≤ maxLen ∧ n2 ≤ maxLen) := ⟨l0, l1, lq, l2⟩
  unfold maxLen at l0 l1 lq l2
  clear h0 h1 h2 hs
  by_cases hsm : n0 ≤ 4096 ∧ n1 ≤ 4096 ∧ n2 ≤ 4096 ∧ q.size ≤ 1048576
  · obtain ⟨s0, s1, s2, sq⟩ := hsm
    go_enter Try.func3, Try.ntmps3
    go_upto_if 54 with (go_at_call 5; refine (zzBytes_any _ _ _ _ _ _ _ _ _ nm _ _ H0.out HS.out LM.out.1 LM.out.2.1 LM.out.2.2.2 LM.out.2.2.1).mono ?_; rintro e w' ⟨⟨r, rfl, hr⟩, hw⟩; have HR : Hid (r = true → ∀ i, i < n0 → (nm i).size ≤ 1048576) := hr; clear hr; rw [hw]; clear hw)
    · go_ret
      exact ⟨rfl, Below.refl _ _⟩
    have HZ : Hid (∀ i, i < n0 → (nm i).size ≤ 1048576) := HR.out (by have h : (!r) = false := by assumption
                                                                      simpa using h)
    clear HR
    go_cut [0] (fun s0 wc => ∃ a c, s0 = .slice a n0 c ∧ Hid (Rd wc a n0 (fun i => .string (nm i))) ∧ Hid (Below w.heap.size w wc))
    case first =>
      cases a0 with
      | none =>
        go_wp2
        go_meet
        case rel => exact ⟨none, _, rfl, H0.out, Below.refl _ _⟩
      | some x =>
        have hmk := run_mk1 (P := Try.prog) 22 9 _ 16 Try.underlying22 info9 rfl n0 (by omega) (by omega)
        obtain ⟨W, hcp, hO, hB⟩ := copy_fresh (P := Try.prog) 22 9 (.string ByteArray.empty) Try.underlying22 (info_size info9) w x n0 c0 (fun i => .string (nm i)) (fun _ => rfl) H0.out
        have HO : Hid (Own W w.heap.size n0 (fun i => .string (nm i))) := hO
        clear hO
        go_wp2
        go_meet
        case rel => exact ⟨_, _, rfl, HO.out.rd, hB⟩
    case rest =>
      obtain ⟨b0, d0, rfl, R0, B0⟩ := hcut
      clear H0
      obtain ⟨w1, rfl⟩ : ∃ w1 : World, w1 = wc := ⟨_, rfl⟩
      go_upto_if 63 with fail
      have H1' : Hid (Rd w1 a1 n1 (fun i => .int .i64 (vl i))) := H1.out.below B0.out
      go_cut [1] (fun s0 wc => ∃ a c, s0 = .slice a n1 c ∧ Hid (Rd wc a n1 (fun i => .int .i64 (vl i))) ∧ Hid (Below w1.heap.size w1 wc))
      case first =>
        cases a1 with
        | none =>
          go_wp2
          go_meet
          case rel => exact ⟨none, _, rfl, H1'.out, Below.refl _ _⟩
        | some x =>
          have hmk := run_mk1 (P := Try.prog) 23 2 _ 8 Try.underlying23 info2 rfl n1 (by omega) (by omega)
          obtain ⟨W, hcp, hO, hB⟩ := copy_fresh (P := Try.prog) 23 2 (.int .i64 0) Try.underlying23 (info_size info2) w1 x n1 c1 (fun i => .int .i64 (vl i)) (fun _ => rfl) H1'.out
          have HO : Hid (Own W w1.heap.size n1 (fun i => .int .i64 (vl i))) := hO
          clear hO
          go_wp2
          go_meet
          case rel => exact ⟨_, _, rfl, HO.out.rd, hB⟩
      case rest =>
        obtain ⟨b1, d1, rfl, R1, B1⟩ := hcut
        clear H1 H1'
        obtain ⟨w2, rfl⟩ : ∃ w2 : World, w2 = wc := ⟨_, rfl⟩
        have R0' : Hid (Rd w2 b0 n0 (fun i => .string (nm i))) := R0.out.below B1.out
        have B2 : Hid (Below w.heap.size w w2) := B0.out.trans (B1.out.mono B0.out.size)
        clear R0 B0 B1
        have H2' : Hid (Rd w2 (some x2) n2 (fun i => .int .u16 (od i))) := H2.out.below B2.out
        have hmk := run_mk1 (P := Try.prog) 24 29 _ 2 Try.underlying24 info29 rfl n2 (by omega) (by omega)
        obtain ⟨W, hcp, hO, hB⟩ := copy_fresh (P := Try.prog) 24 29 (.int .u16 0) Try.underlying24 (info_size info29) w2 x2 n2 c2 (fun i => .int .u16 (od i)) (fun _ => rfl) H2'.out
        have HO : Hid (Own W w2.heap.size n2 (fun i => .int .u16 (od i))) := hO
        have hBW : Hid (Below w2.heap.size w2 W) := hB
        clear hO hB H2 H2'
        by_cases htot : q.size + 8 * n1 + 2 * n2 + 16 * n0 ≤ 1048576
        · go_wp2
          have R0x : Hid (Rd W b0 n0 (fun i => .string (nm i))) := R0'.out.below hBW.out
          have R1x : Hid (Rd W b1 n1 (fun i => .int .i64 (vl i))) := R1.out.below hBW.out
          have B2x : Hid (Below w.heap.size w W) := B2.out.trans (hBW.out.mono B2.out.size)
          clear R0' R1 hBW B2 hcp hmk
          have R0' := R0x
          have R1 := R1x
          have B2 := B2x
          clear R0x R1x B2x
          generalize hg2 : w2.heap.size = g2 at *
          clear hg2
          obtain ⟨wz, rfl⟩ : ∃ wz : World, wz = W := ⟨_, rfl⟩
          clear w2
          obtain ⟨w2, rfl⟩ : ∃ w2 : World, w2 = wz := ⟨_, rfl⟩
          go_loopg [12, 13] n0 (fun kx s t wr => ∃ (k : Nat) (z : Int), k ≤ n0 ∧ t = .int .i64 k ∧ s = .int .i64 z ∧ 0 ≤ z ∧ z ≤ 1048576 ∧ n0 - k ≤ kx ∧ wr = w2)
          case atStart => exact ⟨0, _, Nat.zero_le _, rfl, rfl, by omega, by omega, by omega, rfl⟩
          case round =>
            obtain ⟨k, z, hk, rfl, rfl, hz0, hz1, hgh, hw⟩ := hrel
            rw [hw]
            clear hw
            by_cases hlt : k < n0
            · rcases R0'.out with e0 | ⟨bb, o0, ha0, hb0, hc0⟩
              · omega
              have e0 := hc0 k hlt
              have g0 := HZ.out k hlt
              clear hc0
              subst ha0
              go_wp2
              · go_ret
                exact ⟨rfl, B2.out⟩
              · go_roundg (n0 - (k + 1))
                case measure => omega
                case rel => exact ⟨k + 1, _, by omega, by go_num, rfl, by omega, by omega, Nat.le_refl _, rfl⟩
            · clear hk hgh hz0 hz1
              go_wp2_with fail
              refine (layoutOK_ordered _ _ g2 0 n0 _ n1 _ n2 _ nm od w2 s0 s1 s2 R0'.out HS.out HO.out.lt (fun i hi => by rw [Nat.zero_add]; exact HO.out.cell i hi)).mono ?_
              rintro e w3 ⟨⟨r, rfl, hr⟩, hB3⟩
              have B3' : Hid (Below w2.heap.size w2 w3) := hB3
              clear hB3
              cases r with
              | false =>
                go_wp2
                go_ret
                exact ⟨rfl, B2.out.trans (B3'.out.mono B2.out.size)⟩
              | true =>
                obtain ⟨hn1, hn2, hpl, hinj, hasc⟩ := hr rfl
                clear hr
                subst hn1
                subst hn2
                have HL : Hid (∀ k, k < n2 → plN (od k) < n2) := hpl
                have HI : Hid (∀ i j, i < n2 → j < n2 → plN (od i) = plN (od j) → i = j) := hinj
                have HA : Hid (∀ i, i + 1 < n2 → cmpB (nm (plN (od i))) (nm (plN (od (i + 1)))) < 0) := hasc
                clear hasc hpl hinj
                have R0 : Hid (Rd w3 b0 n2 (fun i => .string (nm i))) := R0'.out.below B3'.out
                have R1' : Hid (Rd w3 b1 n2 (fun i => .int .i64 (vl i))) := R1.out.below B3'.out
                have O3 : Hid (Own w3 g2 n2 (fun i => .int .u16 (od i))) := HO.out.below B3'.out HO.out.lt
                have B3 : Hid (Below w.heap.size w w3) := B2.out.trans (B3'.out.mono B2.out.size)
                clear R0' R1 B2 B3' HO
                go_wp2_with fail
                refine (newBlock_ordered b0 b1 g2 0 d0 d1 n2 n2 nm vl od w3 s2 R0.out R1'.out O3.out.lt (fun i hi => by rw [Nat.zero_add]; exact O3.out.cell i hi)).mono ?_
                rintro e w4 ⟨b, g, go, rfl, hP, hB4⟩
                have HP : Hid (Ordered w4 b n2 nm od g go) := hP
                have B4 : Hid (Below w3.heap.size w3 w4) := hB4
                clear hP hB4
                have hmk1 := run_mk1 (P := Try.prog) 22 9 _ 16 Try.underlying22 info9 rfl n2 (by omega) (by omega)
                have hmk2 := run_mk1 (P := Try.prog) 23 2 _ 8 Try.underlying23 info2 rfl n2 (by omega) (by omega)
                go_wp2
                go_loopg [18, 19] n2 (fun kx s s19 wr => ∃ j : Nat, j ≤ n2 ∧ s = .int .i64 j ∧ n2 - j ≤ kx ∧ Hid (Below w4.heap.size w4 wr) ∧ Hid (Fill wr w4.heap.size n2 (fun i => .string (nm (plN (od i)))) j) ∧ Hid (Fill wr (w4.heap.size + 1) n2 (fun i => .int .i64 (vl (plN (od i)))) j))
                case atStart =>
                  refine ⟨0, Nat.zero_le _, rfl, by omega, ((Below.refl _ _).alloc (Nat.le_refl _) _).alloc (by simp) _, ?_, ?_⟩
                  · exact (Fill.made1 w4 (.string ByteArray.empty) n2 9 _).alloc _
                  · have := Fill.made1 (w4.alloc (Obj.cells (madeCells #[Value.string ByteArray.empty] n2) 9)) (.int .i64 0) n2 2 (fun i => .int .i64 (vl (plN (od i))))
                    rw [World.size_alloc] at this
                    exact this
                case round =>
                  obtain ⟨j, hj, rfl, hgj, B5, F1, F2⟩ := hrel
                  by_cases hlt2 : j < n2
                  · have BW : Below w3.heap.size w3 wr := B4.out.trans (B5.out.mono B4.out.size)
                    rcases R0.out with e0 | ⟨bb, o0, ha0, hb0, hc0⟩
                    · omega
                    rcases R1'.out with e1 | ⟨bc, o1, ha1, hb1, hc1⟩
                    · omega
                    have hp1 := plN_wrap (od j)
                    have hpj := HL.out j hlt2
                    have xo : wr.cell? ⟨g2, j, none⟩ = some (.int .u16 (od j)) := by rw [BW.cell O3.out.lt]; exact O3.out.cell j hlt2
                    have x0 : wr.cell? ⟨bb, o0 + plN (od j), none⟩ = some (.string (nm (plN (od j)))) := by rw [BW.cell hb0]; exact hc0 _ hpj
                    have hs4 := B4.out.size
                    have x1 : (wr.setCell ⟨w4.heap.size, j, none⟩ (.string (nm (plN (od j))))).cell? ⟨bc, o1 + plN (od j), none⟩ = some (.int .i64 (vl (plN (od j)))) := by
                      rw [World.cell?_setCell_other _ _ _ _ (by intro e; injection e with e1 _; omega), BW.cell hb1]; exact hc1 _ hpj
                    obtain ⟨f1, O1, -⟩ := F1.out
                    obtain ⟨f2, O2, -⟩ := F2.out
                    have y0 := O1.cell j hlt2
                    have y1 := (O2.setOther (a := ⟨w4.heap.size, j, none⟩) (by show w4.heap.size ≠ w4.heap.size + 1; omega) (.string (nm (plN (od j))))).cell j hlt2
                    have t0 := O1.thaw j
                    have t1 := O2.thaw j
                    have g2 : Hid (Fill ((wr.setCell ⟨w4.heap.size, j, none⟩ (.string (nm (plN (od j))))).setCell ⟨w4.heap.size + 1, j, none⟩ (.int .i64 (vl (plN (od j))))) w4.heap.size n2 (fun i => .string (nm (plN (od i)))) (j + 1)) :=
                      (F1.out.set hlt2).other (by show w4.heap.size + 1 ≠ w4.heap.size; omega) _
                    have g3 : Hid (Fill ((wr.setCell ⟨w4.heap.size, j, none⟩ (.string (nm (plN (od j))))).setCell ⟨w4.heap.size + 1, j, none⟩ (.int .i64 (vl (plN (od j))))) (w4.heap.size + 1) n2 (fun i => .int .i64 (vl (plN (od i)))) (j + 1)) :=
                      (F2.out.other (a := ⟨w4.heap.size, j, none⟩) (by show w4.heap.size ≠ w4.heap.size + 1; omega) _).set hlt2
                    clear hc0 hc1 O1 O2 BW
                    subst ha0 ha1
                    go_wp2
                    go_roundg (n2 - (j + 1))
                    case measure => omega
                    case rel =>
                      exact ⟨j + 1, by omega, by go_num, Nat.le_refl _, (B5.out.setCell (Nat.le_refl _) _).setCell (by show w4.heap.size ≤ w4.heap.size + 1; omega) _, g2.out, g3.out⟩
                  · obtain rfl : j = n2 := by omega
                    obtain ⟨w5, rfl⟩ : ∃ w5 : World, w5 = wr := ⟨_, rfl⟩
                    have BW : Hid (Below w3.heap.size w3 w5) := B4.out.trans (B5.out.mono B4.out.size)
                    go_wp2_with fail
                    refine (newBlock_plain (some ⟨w4.heap.size, 0, none⟩) (some ⟨w4.heap.size + 1, 0, none⟩) j j j (fun i => nm (plN (od i))) (fun i => vl (plN (od i))) w5 s2 F1.out.own.rd F2.out.own.rd).mono ?_
                    rintro e w6 ⟨b', g', rfl, hP', hB6⟩
                    have HP' : Hid (Plain w6 b' j (fun i => nm (plN (od i))) (fun i => vl (plN (od i))) g') := hP'
                    have HP1 : Hid (Ordered w6 b j nm od g go) := (HP.out.below B5.out).below hB6
                    have R6 : Hid (Rd w6 b0 j (fun i => .string (nm i))) := (R0.out.below BW.out).below hB6
                    have B6 : Hid (Below w.heap.size w w6) := B3.out.trans ((BW.out.trans (hB6.mono BW.out.size)).mono B3.out.size)
                    clear hP' hB6 HP BW F1 F2 B5 B4 R0 R1' B3
                    go_wp2
                    go_loopg [21, 22, 23] j (fun kx s21 s22 s23 wr => ∃ i : Nat, i ≤ j ∧ s23 = .int .i64 i ∧ s21 = .int .i64 (lessN nm q i) ∧ s22 = .bool (hasN nm q i) ∧ j - i ≤ kx ∧ Hid (∃ m, wr = w6.drewN m))
                    case atStart => exact ⟨0, Nat.zero_le _, rfl, rfl, rfl, by omega, (⟨0, rfl⟩ : ∃ m, w6 = w6.drewN m)⟩
                    case round =>
                      obtain ⟨i, hi, rfl, rfl, rfl, hgi, hW⟩ := hrel
                      have hl := lessN_le nm q i
                      by_cases hlt3 : i < j
                      · rcases R6.out with e0 | ⟨bb, o0, ha0, hb0, hc0⟩
                        · omega
                        obtain ⟨m', hm'⟩ := hW.out
                        have x0 : wr.cell? ⟨bb, o0 + i, none⟩ = some (.string (nm i)) := by rw [hm']; exact hc0 i hlt3
                        clear hc0 hm'
                        subst ha0
                        go_wp2_with fail
                        refine (rbCmp_any (nm i) q wr (HS.out i hlt3) LM.out.2.2.1).mono ?_
                        rintro e w' ⟨rfl, m'', hw⟩
                        rw [hw]
                        clear hw
                        have hW2 : Hid (∃ m, wr.drewN m'' = w6.drewN m) := by
                          obtain ⟨m1, hm1⟩ := hW.out
                          exact ⟨m1 + m'', by rw [hm1, World.drewN_drewN]⟩
                        clear hW
                        rcases Int.lt_trichotomy (cmpB (nm i) q) 0 with hx | hx | hx
                        · have hx0 : (cmpB (nm i) q == 0) = false := beq_eq_false_iff_ne.2 (by omega)
                          have L1 : Hid (lessN nm q (i + 1) = lessN nm q i + 1) := lessN_lt hx
                          have L2 : Hid (hasN nm q (i + 1) = hasN nm q i) := hasN_ne (by omega)
                          go_wp2
                          go_roundg (j - (i + 1))
                          case measure => omega
                          case rel => exact ⟨i + 1, by omega, by go_num, by rw [L1.out]; go_num, by rw [L2.out], Nat.le_refl _, hW2⟩
                        · have hx0 : (cmpB (nm i) q == 0) = true := beq_iff_eq.2 hx
                          have hx1 : ¬ cmpB (nm i) q < 0 := by omega
                          have L1 : Hid (lessN nm q (i + 1) = lessN nm q i) := lessN_ge (by omega)
                          have L2 : Hid (hasN nm q (i + 1) = true) := hasN_eq hx
                          clear hx
                          go_wp2
                          go_roundg (j - (i + 1))
                          case measure => omega
                          case rel => exact ⟨i + 1, by omega, by go_num, by rw [L1.out], by rw [L2.out], Nat.le_refl _, hW2⟩
                        · have hx0 : (cmpB (nm i) q == 0) = false := beq_eq_false_iff_ne.2 (by omega)
                          have hx1 : ¬ cmpB (nm i) q < 0 := by omega
                          have L1 : Hid (lessN nm q (i + 1) = lessN nm q i) := lessN_ge (by omega)
                          have L2 : Hid (hasN nm q (i + 1) = hasN nm q i) := hasN_ne (by omega)
                          go_wp2
                          go_roundg (j - (i + 1))
                          case measure => omega
                          case rel => exact ⟨i + 1, by omega, by go_num, by rw [L1.out], by rw [L2.out], Nat.le_refl _, hW2⟩
                      · obtain rfl : i = j := by omega
                        obtain ⟨w7, rfl⟩ : ∃ w7 : World, w7 = wr := ⟨_, rfl⟩
                        have B7 : Hid (Below w6.heap.size w6 w7) := by
                          obtain ⟨m1, hm1⟩ := hW.out
                          rw [hm1]; exact below_drewN (Below.refl _ _) _
                        go_wp2_with fail
                        refine (zzsearch_ordered b i nm od g go q w7 s2 (HP1.out.below B7.out) HL.out HI.out HA.out).mono ?_
                        rintro e w8 ⟨rfl, hB8⟩
                        have B8 : Hid (Below w6.heap.size w6 w8) := B7.out.trans (hB8.mono B7.out.size)
                        clear hB8
                        go_wp2_with fail
                        refine (zzsearch_plain b' i (fun i => nm (plN (od i))) (fun i => vl (plN (od i))) g' q w8 s2 (HP'.out.below B8.out) HA.out).mono ?_
                        rw [lessN_perm nm q i (fun k => plN (od k)) HL.out HI.out, hasN_perm nm q i (fun k => plN (od k)) HL.out HI.out]
                        rintro e w9 ⟨rfl, hB9⟩
                        have B9 : Hid (Below w.heap.size w w9) := B6.out.trans ((B8.out.trans (hB9.mono B8.out.size)).mono B6.out.size)
                        clear hB9
                        go_wp2
                        go_ret
                        exact ⟨by simp, B9.out⟩
        · go_wp2
          go_ret
          exact ⟨rfl, B2.out.trans (hBW.out.mono B2.out.size)⟩
  · go_enter Try.func3, Try.ntmps3
    go_wp2_with (go_at_call 5; refine (zzBytes_any _ _ _ _ _ _ _ _ _ nm _ _ H0.out HS.out LM.out.1 LM.out.2.1 LM.out.2.2.2 LM.out.2.2.1).mono ?_; rintro e w' ⟨⟨r, rfl, hr⟩, hw⟩; clear hr; rw [hw]; clear hw)
    all_goals (go_ret; exact ⟨rfl, Below.refl _ _⟩)

end Go.Proofs.Qxb6608767a
