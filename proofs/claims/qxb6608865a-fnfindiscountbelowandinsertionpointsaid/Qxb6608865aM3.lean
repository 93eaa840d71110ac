import Derived.Test.Qxb6608865aRow2
namespace Go.Proofs.Qxb6608865a
open Go.RowKit
set_option linter.unusedSimpArgs false
set_option linter.unusedVariables false

set_option maxRecDepth 100000 in
set_option maxHeartbeats 1000000 in
theorem main3 (a0 a1 : Option Addr) (n0 c0 n1 c1 : Nat) (cs ns : Nat → Int) (c nd : Int) (w : World)
    (h0 : Rd w a0 n0 (fun i => .int .u64 (cs i))) (h1 : Rd w a1 n1 (fun i => .int .u64 (ns i)))
    (l0 : n0 ≤ maxLen) (l1 : n1 ≤ maxLen) :
    Calls Try.prog 3 #[.slice a0 n0 c0, .slice a1 n1 c1, .int .u64 c, .int .u64 nd] w fun e w' => e = .returned (.bool true) ∧ Below w.heap.size w w' := by
  have q22 : ∀ (w : World) (a : Option Addr) (n c n' c' : Nat), (binOp .neq 22 (.slice a n c) (.slice none n' c')).run Try.prog w = .ok (.bool (!a.isNone)) w := fun w a n c n' c' => run_neq_slice_nil_any w _ _ a n c n' c' Try.underlying22
  have H0 : Hid (Rd w a0 n0 (fun i => .int .u64 (cs i))) := h0
  have H1 : Hid (Rd w a1 n1 (fun i => .int .u64 (ns i))) := h1
  have LM : Hid (n0 ≤ maxLen ∧ n1 ≤ maxLen) := ⟨l0, l1⟩
  unfold maxLen at l0 l1
  clear h0 h1
  by_cases hsm : n0 ≤ 65536 ∧ n1 ≤ 65536
  · obtain ⟨s0, s1⟩ := hsm
    by_cases hne : n0 = n1
    · subst hne
      go_enter Try.func3, Try.ntmps3
      go_upto_if 55 with (first
        | (go_at_call 5; refine (zzBytes5 _ _ _ _ _ _ _ _ _ LM.out.1 LM.out.2).mono ?_; rintro e w' ⟨⟨r, rfl, -⟩, hw⟩; rw [hw]; clear hw)
        | (go_at_call 6; refine (sorted_any _ _ _ _ _ cs ns _ s0 H0.out H1.out).mono ?_; rintro e w' ⟨⟨r2, rfl, hr⟩, m, hw⟩; have HR : Hid (r2 = true → ∀ i, i + 1 < n0 → tlB (cs i) (ns i) (cs (i + 1)) (ns (i + 1)) = true) := hr; clear hr; rw [hw]; clear hw))
      · go_ret
        exact ⟨rfl, Below.refl _ _⟩
      · go_ret
        exact ⟨rfl, below_drewN (Below.refl _ _) _⟩
      have HSo : Hid (Sorted cs ns n0) := HR.out (by have h : (!r2) = false := by assumption
                                                     simpa using h)
      clear HR
      have Ha : Hid (Rd (w.drewN m) a0 n0 (fun i => .int .u64 (cs i))) := H0.out.below (below_drewN (Below.refl _ _) _)
      have Hb : Hid (Rd (w.drewN m) a1 n0 (fun i => .int .u64 (ns i))) := H1.out.below (below_drewN (Below.refl _ _) _)
      have B0 : Hid (Below w.heap.size w (w.drewN m)) := below_drewN (Below.refl _ _) _
      clear H0 H1
      generalize w.drewN m = w0 at *
      go_cut [0] (fun s0 wc => ∃ a c, s0 = .slice a n0 c ∧ Hid (Rd wc a n0 (fun i => .int .u64 (cs i))) ∧ Hid (Below w0.heap.size w0 wc))
      case first =>
        cases a0 with
        | none =>
          go_wp2
          go_meet
          case rel => exact ⟨none, _, rfl, Ha.out, Below.refl _ _⟩
        | some x =>
          have hmk := run_mk1 (P := Try.prog) 22 23 _ 8 Try.underlying22 info23 rfl n0 (by omega) (by omega)
          obtain ⟨W, hcp, hO, hB⟩ := copy_fresh (P := Try.prog) 22 23 (.int .u64 0) Try.underlying22 (info_size info23) w0 x n0 c0 (fun i => .int .u64 (cs i)) (fun _ => rfl) Ha.out
          have HO : Hid (Own W w0.heap.size n0 (fun i => .int .u64 (cs i))) := hO
          clear hO
          go_wp2
          go_meet
          case rel => exact ⟨_, _, rfl, HO.out.rd, hB⟩
      case rest =>
        obtain ⟨b0, d0, rfl, R0, B1⟩ := hcut
        obtain ⟨w1, rfl⟩ : ∃ w1 : World, w1 = wc := ⟨_, rfl⟩
        go_upto_if 64 with fail
        have Hb' : Hid (Rd w1 a1 n0 (fun i => .int .u64 (ns i))) := Hb.out.below B1.out
        clear Ha Hb
        go_cut [1] (fun s0 wc => ∃ a c, s0 = .slice a n0 c ∧ Hid (Rd wc a n0 (fun i => .int .u64 (ns i))) ∧ Hid (Below w1.heap.size w1 wc))
        case first =>
          cases a1 with
          | none =>
            go_wp2
            go_meet
            case rel => exact ⟨none, _, rfl, Hb'.out, Below.refl _ _⟩
          | some x =>
            have hmk := run_mk1 (P := Try.prog) 22 23 _ 8 Try.underlying22 info23 rfl n0 (by omega) (by omega)
            obtain ⟨W, hcp, hO, hB⟩ := copy_fresh (P := Try.prog) 22 23 (.int .u64 0) Try.underlying22 (info_size info23) w1 x n0 c1 (fun i => .int .u64 (ns i)) (fun _ => rfl) Hb'.out
            have HO : Hid (Own W w1.heap.size n0 (fun i => .int .u64 (ns i))) := hO
            clear hO
            go_wp2
            go_meet
            case rel => exact ⟨_, _, rfl, HO.out.rd, hB⟩
        case rest =>
          obtain ⟨b1, d1, rfl, R1, B2'⟩ := hcut
          obtain ⟨w2, rfl⟩ : ∃ w2 : World, w2 = wc := ⟨_, rfl⟩
          have R0' : Hid (Rd w2 b0 n0 (fun i => .int .u64 (cs i))) := R0.out.below B2'.out
          have B2 : Hid (Below w.heap.size w w2) := B0.out.trans ((B1.out.trans (B2'.out.mono B1.out.size)).mono B0.out.size)
          clear R0 B0 B1 B2' Hb'
          go_wp2_with fail
          refine (newVS b0 b1 d0 d1 n0 n0 cs ns w2 (by omega) (Nat.le_refl _) R0'.out R1.out).mono ?_
          rintro e w3 ⟨g, rfl, hV, hB3⟩
          have HV : Hid (VS w3 g n0 cs ns) := hV
          have B3 : Hid (Below w2.heap.size w2 w3) := hB3
          clear hV hB3
          have R0 : Hid (Rd w3 b0 n0 (fun i => .int .u64 (cs i))) := R0'.out.below B3.out
          have R1' : Hid (Rd w3 b1 n0 (fun i => .int .u64 (ns i))) := R1.out.below B3.out
          have B3' : Hid (Below w.heap.size w w3) := B2.out.trans (B3.out.mono B2.out.size)
          clear R0' R1 B2 B3
          go_wp2_with fail
          refine (zzfind g n0 cs ns c nd w3 (by omega) HV.out (HSo.out.mono _ _)).mono ?_
          rintro e w4 ⟨⟨k, hk, hsp, rfl⟩, hB4⟩
          have SP : Hid (Span cs ns c nd n0 k k) := hsp
          have R0x : Hid (Rd w4 b0 n0 (fun i => .int .u64 (cs i))) := R0.out.below hB4
          have R1x : Hid (Rd w4 b1 n0 (fun i => .int .u64 (ns i))) := R1'.out.below hB4
          have B4 : Hid (Below w.heap.size w w4) := B3'.out.trans (hB4.mono B3'.out.size)
          have HE : Hid (presN cs ns c nd n0 = isAt cs ns c nd n0 k) := presN_isAt HSo.out hk hsp
          have HL : Hid (belowN cs ns c nd n0 = k) := by have := belowN_span hk hsp n0 (Nat.le_refl _); show _ = _; rw [this]; omega
          clear hsp hB4 R0 R1' B3' HV
          go_wp2
          go_loopg [14, 15, 16] n0 (fun kx s14 s15 s16 wr => ∃ j : Nat, j ≤ n0 ∧ s16 = .int .i64 j ∧ s14 = .int .i64 (belowN cs ns c nd j) ∧ s15 = .bool (presN cs ns c nd j) ∧ n0 - j ≤ kx ∧ Hid (∃ m, wr = w4.drewN m))
          case atStart => exact ⟨0, Nat.zero_le _, rfl, rfl, rfl, by omega, (⟨0, rfl⟩ : ∃ m, w4 = w4.drewN m)⟩
          case round =>
            obtain ⟨j, hj, rfl, rfl, rfl, hgj, hW⟩ := hrel
            have hle := belowN_le cs ns c nd j
            by_cases hlt : j < n0
            · rcases R0x.out with e0 | ⟨bb, o0, ha0, hb0, hc0⟩
              · omega
              rcases R1x.out with e1 | ⟨bc, o1, ha1, hb1, hc1⟩
              · omega
              obtain ⟨m', hm'⟩ := hW.out
              have x0 : wr.cell? ⟨bb, o0 + j, none⟩ = some (.int .u64 (cs j)) := by rw [hm']; exact hc0 j hlt
              have x1 : wr.cell? ⟨bc, o1 + j, none⟩ = some (.int .u64 (ns j)) := by rw [hm']; exact hc1 j hlt
              have hW2 : Hid (∀ q, ∃ m, wr.drewN q = w4.drewN m) := fun q => ⟨m' + q, by rw [hm', World.drewN_drewN]⟩
              clear hc0 hc1 hm' hW
              subst ha0 ha1
              go_wp2
              go_quiet ((go_at_call 9; exact Calls.quiet_of_same (tagLess_any _ _ _ _ _)))
              cases ht : tlB (cs j) (ns j) c nd with
              | true =>
                have L1 : Hid (belowN cs ns c nd (j + 1) = belowN cs ns c nd j + 1) := belowN_yes ht
                cases hq1 : (cs j == c) with
                | true =>
                  cases hq2 : (ns j == nd) with
                  | true =>
                    have L2 : Hid (presN cs ns c nd (j + 1) = true) := by simp [presN, eqAt, hq1, hq2, Hid]
                    clear ht
                    go_wp2
                    go_roundg (n0 - (j + 1))
                    case measure => omega
                    case rel => exact ⟨j + 1, by omega, by go_num, by rw [L1.out]; go_num, by rw [L2.out], Nat.le_refl _, hW2.out _⟩
                  | false =>
                    have L2 : Hid (presN cs ns c nd (j + 1) = presN cs ns c nd j) := by simp [presN, eqAt, hq1, hq2, Hid]
                    go_wp2
                    go_roundg (n0 - (j + 1))
                    case measure => omega
                    case rel => exact ⟨j + 1, by omega, by go_num, by rw [L1.out]; go_num, by rw [L2.out], Nat.le_refl _, hW2.out _⟩
                | false =>
                  have L2 : Hid (presN cs ns c nd (j + 1) = presN cs ns c nd j) := by simp [presN, eqAt, hq1, Hid]
                  go_wp2
                  go_roundg (n0 - (j + 1))
                  case measure => omega
                  case rel => exact ⟨j + 1, by omega, by go_num, by rw [L1.out]; go_num, by rw [L2.out], Nat.le_refl _, hW2.out _⟩
              | false =>
                have L1 : Hid (belowN cs ns c nd (j + 1) = belowN cs ns c nd j) := belowN_no ht
                cases hq1 : (cs j == c) with
                | true =>
                  cases hq2 : (ns j == nd) with
                  | true =>
                    have L2 : Hid (presN cs ns c nd (j + 1) = true) := by simp [presN, eqAt, hq1, hq2, Hid]
                    clear ht
                    go_wp2
                    go_roundg (n0 - (j + 1))
                    case measure => omega
                    case rel => exact ⟨j + 1, by omega, by go_num, by rw [L1.out], by rw [L2.out], Nat.le_refl _, hW2.out _⟩
                  | false =>
                    have L2 : Hid (presN cs ns c nd (j + 1) = presN cs ns c nd j) := by simp [presN, eqAt, hq1, hq2, Hid]
                    go_wp2
                    go_roundg (n0 - (j + 1))
                    case measure => omega
                    case rel => exact ⟨j + 1, by omega, by go_num, by rw [L1.out], by rw [L2.out], Nat.le_refl _, hW2.out _⟩
                | false =>
                  have L2 : Hid (presN cs ns c nd (j + 1) = presN cs ns c nd j) := by simp [presN, eqAt, hq1, Hid]
                  go_wp2
                  go_roundg (n0 - (j + 1))
                  case measure => omega
                  case rel => exact ⟨j + 1, by omega, by go_num, by rw [L1.out], by rw [L2.out], Nat.le_refl _, hW2.out _⟩
            · obtain rfl : j = n0 := by omega
              obtain ⟨m', hm'⟩ := hW.out
              have R0' : Hid (Rd wr b0 j (fun i => .int .u64 (cs i))) := by rw [hm']; exact R0x.out.below (below_drewN (Below.refl _ _) _)
              have R1' : Hid (Rd wr b1 j (fun i => .int .u64 (ns i))) := by rw [hm']; exact R1x.out.below (below_drewN (Below.refl _ _) _)
              have B5 : Hid (Below w.heap.size w wr) := by rw [hm']; exact below_drewN B4.out _
              clear hW hm' R0x R1x B4
              obtain ⟨w5, rfl⟩ : ∃ w5 : World, w5 = wr := ⟨_, rfl⟩
              rw [HL.out, HE.out]
              cases hat : isAt cs ns c nd j k with
              | false =>
                have ec : ((j + 1 : Nat) : Int) = (j : Int) + 1 := by omega
                have hmk : ∀ w : World, (Instr.makeSlice 22 (.int .i64 ((j : Int) + 1)) (.int .i64 ((j : Int) + 1))).run Try.prog w = .ok (.slice (some ⟨w.heap.size, 0, none⟩) (j + 1) (j + 1)) (w.alloc (.cells (madeCells #[.int .u64 0] (j + 1)) 23)) := fun w => by
                  have := run_mk1 (P := Try.prog) 22 23 _ 8 Try.underlying22 info23 rfl (j + 1) (by omega) (by omega) w
                  rwa [ec] at this
                clear ec
                have HK : Hid (∀ W, Below w5.heap.size w5 W → ∀ t, t < j → (∃ bb o0 bc o1, b0 = some ⟨bb, o0, none⟩ ∧ b1 = some ⟨bc, o1, none⟩ ∧ bb < w5.heap.size ∧ bc < w5.heap.size ∧ W.cell? ⟨bb, o0 + t, none⟩ = some (.int .u64 (cs t)) ∧ W.cell? ⟨bc, o1 + t, none⟩ = some (.int .u64 (ns t)))) := by
                  intro W hW t ht
                  rcases R0'.out with e0 | ⟨bb, o0, ha0, hb0, hc0⟩
                  · omega
                  rcases R1'.out with e1 | ⟨bc, o1, ha1, hb1, hc1⟩
                  · omega
                  exact ⟨bb, o0, bc, o1, ha0, ha1, hb0, hb1, by rw [hW.cell hb0]; exact hc0 t ht, by rw [hW.cell hb1]; exact hc1 t ht⟩
                clear R0' R1'
                go_wp2
                go_loopg [20] k (fun kx s wr => ∃ t : Nat, t ≤ k ∧ s = .int .i64 t ∧ k - t ≤ kx ∧ Hid (Below w5.heap.size w5 wr) ∧ Hid (Fill wr w5.heap.size (j + 1) (insV cs k c) t) ∧ Hid (Fill wr (w5.heap.size + 1) (j + 1) (insV ns k nd) t))
                case atStart =>
                  refine ⟨0, Nat.zero_le _, rfl, by omega, ((Below.refl _ _).alloc (Nat.le_refl _) _).alloc (by simp) _, ?_, ?_⟩
                  · exact (Fill.made1 w5 (.int .u64 0) (j + 1) 23 _).alloc _
                  · have := Fill.made1 (w5.alloc (Obj.cells (madeCells #[Value.int .u64 0] (j + 1)) 23)) (.int .u64 0) (j + 1) 23 (insV ns k nd)
                    rw [World.size_alloc] at this
                    exact this
                case round =>
                  obtain ⟨t, ht, rfl, hgt, B6, F1, F2⟩ := hrel
                  by_cases htk : t < k
                  · obtain ⟨bb, o0, bc, o1, ha0, ha1, hb0, hb1, x0, x1⟩ := HK.out wr B6.out t (by omega)
                    have x1' : (wr.setCell ⟨w5.heap.size, t, none⟩ (.int .u64 (cs t))).cell? ⟨bc, o1 + t, none⟩ = some (.int .u64 (ns t)) := by
                      rw [World.cell?_setCell_other _ _ _ _ (by intro e; injection e with e1 _; omega)]; exact x1
                    obtain ⟨v0, y0, t0⟩ := fill_cell F1.out t (by omega)
                    obtain ⟨v1, y1, t1⟩ := fill_cell (F2.out.other (a := ⟨w5.heap.size, t, none⟩) (by show w5.heap.size ≠ w5.heap.size + 1; omega) (.int .u64 (cs t))) t (by omega)
                    have t1' : wr.frozen? ⟨w5.heap.size + 1, t, none⟩ = false := by simpa using t1
                    have G := fill2 F1.out F2.out (by omega) (by omega) (insV_lt htk) (insV_lt htk)
                    have G1 : Hid _ := G.1
                    have G2 : Hid _ := G.2
                    clear G x1 t1
                    subst ha0 ha1
                    go_wp2
                    go_roundg (k - (t + 1))
                    case measure => omega
                    case rel => exact ⟨t + 1, by omega, by go_num, Nat.le_refl _, (B6.out.setCell (Nat.le_refl _) _).setCell (by show w5.heap.size ≤ w5.heap.size + 1; omega) _, G1, G2⟩
                  · obtain rfl : t = k := by omega
                    obtain ⟨v0, y0, t0⟩ := fill_cell F1.out t (by omega)
                    obtain ⟨v1, y1, t1⟩ := fill_cell (F2.out.other (a := ⟨w5.heap.size, t, none⟩) (by show w5.heap.size ≠ w5.heap.size + 1; omega) (.int .u64 c)) t (by omega)
                    have t1' : wr.frozen? ⟨w5.heap.size + 1, t, none⟩ = false := by simpa using t1
                    have G := fill2 F1.out F2.out (by omega) (by omega) (insV_at (f := cs) (k := t) (v := c)) (insV_at (f := ns) (k := t) (v := nd))
                    have G1 : Hid _ := G.1
                    have G2 : Hid _ := G.2
                    have B7 : Hid (Below w5.heap.size w5 ((wr.setCell ⟨w5.heap.size, t, none⟩ (.int .u64 c)).setCell ⟨w5.heap.size + 1, t, none⟩ (.int .u64 nd))) := (B6.out.setCell (Nat.le_refl _) _).setCell (by show w5.heap.size ≤ w5.heap.size + 1; omega) _
                    clear G t1 F1 F2 B6
                    go_wp2
                    generalize (wr.setCell ⟨w5.heap.size, t, none⟩ (.int .u64 c)).setCell ⟨w5.heap.size + 1, t, none⟩ (.int .u64 nd) = w6 at *
                    go_loopg [21] j (fun kx s wr => ∃ i : Nat, t ≤ i ∧ i ≤ j ∧ s = .int .i64 i ∧ j - i ≤ kx ∧ Hid (Below w5.heap.size w5 wr) ∧ Hid (Fill wr w5.heap.size (j + 1) (insV cs t c) (i + 1)) ∧ Hid (Fill wr (w5.heap.size + 1) (j + 1) (insV ns t nd) (i + 1)))
                    case atStart => exact ⟨t, Nat.le_refl _, hk, rfl, by omega, B7.out, G1, G2⟩
                    case round =>
                      obtain ⟨i, hti, hij, rfl, hgi, B8, F1, F2⟩ := hrel
                      by_cases hi : i < j
                      · obtain ⟨bb, o0, bc, o1, ha0, ha1, hb0, hb1, x0, x1⟩ := HK.out wr B8.out i hi
                        have x1' : (wr.setCell ⟨w5.heap.size, i + 1, none⟩ (.int .u64 (cs i))).cell? ⟨bc, o1 + i, none⟩ = some (.int .u64 (ns i)) := by
                          rw [World.cell?_setCell_other _ _ _ _ (by intro e; injection e with e1 _; omega)]; exact x1
                        obtain ⟨v2, y2, t2⟩ := fill_cell F1.out (i + 1) (by omega)
                        obtain ⟨v3, y3, t3⟩ := fill_cell (F2.out.other (a := ⟨w5.heap.size, i + 1, none⟩) (by show w5.heap.size ≠ w5.heap.size + 1; omega) (.int .u64 (cs i))) (i + 1) (by omega)
                        have t3' : wr.frozen? ⟨w5.heap.size + 1, i + 1, none⟩ = false := by simpa using t3
                        have G := fill2 F1.out F2.out (by omega) (by omega) (insV_gt (f := cs) (v := c) hti) (insV_gt (f := ns) (v := nd) hti)
                        have G3 : Hid _ := G.1
                        have G4 : Hid _ := G.2
                        clear G x1 t3 y0 t0 y1 t1'
                        subst ha0 ha1
                        go_wp2
                        go_roundg (j - (i + 1))
                        case measure => omega
                        case rel => exact ⟨i + 1, by omega, by omega, by go_num, Nat.le_refl _, (B8.out.setCell (Nat.le_refl _) _).setCell (by show w5.heap.size ≤ w5.heap.size + 1; omega) _, G3, G4⟩
                      · obtain rfl : i = j := by omega
                        obtain ⟨w8, rfl⟩ : ∃ w8 : World, w8 = wr := ⟨_, rfl⟩
                        have E1 : Hid (Rd w8 (some ⟨w5.heap.size, 0, none⟩) (i + 1) (fun x => .int .u64 (ins cs t c x))) := F1.out.own.rd
                        have E2 : Hid (Rd w8 (some ⟨w5.heap.size + 1, 0, none⟩) (i + 1) (fun x => .int .u64 (ins ns t nd x))) := F2.out.own.rd
                        clear y0 t0 y1 t1' F1 F2 HK
                        go_wp2_with fail
                        refine (newVS _ _ _ _ (i + 1) (i + 1) (ins cs t c) (ins ns t nd) w8 (by omega) (Nat.le_refl _) E1.out E2.out).mono ?_
                        rintro e w9 ⟨g9, rfl, hV9, hB9⟩
                        go_wp2_with fail
                        refine (zzfind g9 (i + 1) (ins cs t c) (ins ns t nd) c nd w9 (by omega) hV9 (ins_mono SP.out)).mono ?_
                        rintro e wa ⟨hF, hBa⟩
                        have hFe := ins_found hk SP.out hF
                        subst hFe
                        have Bz : Hid (Below w.heap.size w wa) := (B5.out.trans (B8.out.mono B5.out.size)).trans ((hB9.trans (hBa.mono hB9.size)).mono (Nat.le_trans B5.out.size B8.out.size))
                        clear hF hBa hB9 hV9
                        go_wp2
                        go_ret
                        exact ⟨by simp, Bz.out⟩
              | true =>
                obtain ⟨hkj, -, -⟩ := isAt_iff.1 hat
                have HAT : Hid (isAt cs ns c nd j k = true) := hat
                have hmk := run_mk0 (P := Try.prog) 22 23 _ 8 Try.underlying22 info23 rfl j (by omega) (by omega)
                have HK : Hid (∀ W, Below w5.heap.size w5 W → ∀ t, t < j → (∃ bb o0 bc o1, b0 = some ⟨bb, o0, none⟩ ∧ b1 = some ⟨bc, o1, none⟩ ∧ bb < w5.heap.size ∧ bc < w5.heap.size ∧ W.cell? ⟨bb, o0 + t, none⟩ = some (.int .u64 (cs t)) ∧ W.cell? ⟨bc, o1 + t, none⟩ = some (.int .u64 (ns t)))) := by
                  intro W hW t ht
                  rcases R0'.out with e0 | ⟨bb, o0, ha0, hb0, hc0⟩
                  · omega
                  rcases R1'.out with e1 | ⟨bc, o1, ha1, hb1, hc1⟩
                  · omega
                  exact ⟨bb, o0, bc, o1, ha0, ha1, hb0, hb1, by rw [hW.cell hb0]; exact hc0 t ht, by rw [hW.cell hb1]; exact hc1 t ht⟩
                clear R0' R1' hat
                go_wp2
                go_loopg [24, 25, 26] j (fun kx s24 s25 s26 wr => ∃ t : Nat, t ≤ j ∧ s26 = .int .i64 t ∧ s24 = .slice (some ⟨w5.heap.size, 0, none⟩) (remN k t) j ∧ s25 = .slice (some ⟨w5.heap.size + 1, 0, none⟩) (remN k t) j ∧ j - t ≤ kx ∧ Hid (Below w5.heap.size w5 wr) ∧ Hid (Fill wr w5.heap.size j (delV cs k) (remN k t)) ∧ Hid (Fill wr (w5.heap.size + 1) j (delV ns k) (remN k t)))
                case atStart =>
                  refine ⟨0, Nat.zero_le _, rfl, by rw [remN_zero], by rw [remN_zero], by omega, ((Below.refl _ _).alloc (Nat.le_refl _) _).alloc (by simp) _, ?_, ?_⟩
                  · rw [remN_zero]; exact (Fill.made1 w5 (.int .u64 0) j 23 _).alloc _
                  · have := Fill.made1 (w5.alloc (Obj.cells (madeCells #[Value.int .u64 0] j) 23)) (.int .u64 0) j 23 (delV ns k)
                    rw [World.size_alloc] at this
                    rw [remN_zero]
                    exact this
                case round =>
                  obtain ⟨t, ht, rfl, rfl, rfl, hgt, B6, F1, F2⟩ := hrel
                  by_cases htj : t < j
                  · by_cases htk : t = k
                    · subst htk
                      go_wp2
                      go_roundg (j - (t + 1))
                      case measure => omega
                      case rel => exact ⟨t + 1, by omega, by go_num, by rw [remN_at], by rw [remN_at], Nat.le_refl _, B6.out, by rw [remN_at]; exact F1.out, by rw [remN_at]; exact F2.out⟩
                    · have hb : ((t : Int) != (k : Int)) = true := by rw [bne_iff_ne]; omega
                      have HT : Hid (t ≠ k) := htk
                      clear htk
                      obtain ⟨bb, o0, bc, o1, ha0, ha1, hb0, hb1, x0, x1⟩ := HK.out wr B6.out t htj
                      have hrm := remN_lt hkj HT.out htj
                      have RM : Hid (remN k (t + 1) = remN k t + 1) := remN_ne HT.out
                      have G := fill2 F1.out F2.out (by omega) (by omega) (delV_remN (f := cs) HT.out) (delV_remN (f := ns) HT.out)
                      have G1 : Hid _ := G.1
                      have G2 : Hid _ := G.2
                      clear G
                      generalize remN k t = m at *
                      have hlt1 := F1.out.lt
                      have hlt2 := F2.out.lt
                      have hbc : bc < wr.heap.size := by omega
                      have x1' : (wr.setCell ⟨w5.heap.size, m, none⟩ (.int .u64 (cs t))).cell? ⟨bc, o1 + t, none⟩ = some (.int .u64 (ns t)) := by
                        rw [World.cell?_setCell_other _ _ _ _ (by intro e; injection e with e1 _; omega)]; exact x1
                      obtain ⟨v0, y0, t0⟩ := fill_cell F1.out m (by omega)
                      obtain ⟨v1, y1, t1⟩ := fill_cell (F2.out.other (a := ⟨w5.heap.size, m, none⟩) (by show w5.heap.size ≠ w5.heap.size + 1; omega) (.int .u64 (cs t))) m (by omega)
                      have t1' : wr.frozen? ⟨w5.heap.size + 1, m, none⟩ = false := by simpa using t1
                      clear x1 t1
                      subst ha0 ha1
                      go_wp2
                      go_roundg (j - (t + 1))
                      case measure => omega
                      case rel =>
                        refine ⟨t + 1, by omega, by go_num, by rw [RM.out], by rw [RM.out], Nat.le_refl _, ?_, ?_, ?_⟩
                        · exact ((((B6.out.setCell (Nat.le_refl _) _).setCell (by show w5.heap.size ≤ w5.heap.size + 1; omega) _).alloc (by simp; omega) _).alloc (by simp; omega) _)
                        · rw [RM.out]; exact Fill.alloc (Fill.alloc G1.out _) _
                        · rw [RM.out]; exact Fill.alloc (Fill.alloc G2.out _) _
                  · obtain rfl : t = j := by omega
                    obtain ⟨w8, rfl⟩ : ∃ w8 : World, w8 = wr := ⟨_, rfl⟩
                    have hre := remN_end hkj
                    have E1 : Hid (Rd w8 (some ⟨w5.heap.size, 0, none⟩) (t - 1) (fun x => .int .u64 (del cs k x))) := by have := F1.out.rdk (by rw [hre]; omega); rw [hre] at this; exact this
                    have E2 : Hid (Rd w8 (some ⟨w5.heap.size + 1, 0, none⟩) (t - 1) (fun x => .int .u64 (del ns k x))) := by have := F2.out.rdk (by rw [hre]; omega); rw [hre] at this; exact this
                    rw [hre]
                    clear hre F1 F2 HK
                    go_wp2_with fail
                    refine (newVS _ _ _ _ (t - 1) (t - 1) (del cs k) (del ns k) w8 (by omega) (Nat.le_refl _) E1.out E2.out).mono ?_
                    rintro e w9 ⟨g9, rfl, hV9, hB9⟩
                    go_wp2_with fail
                    refine (zzfind g9 (t - 1) (del cs k) (del ns k) c nd w9 (by omega) hV9 (del_mono SP.out (by omega))).mono ?_
                    rintro e wa ⟨hF, hBa⟩
                    have hFe := del_found HSo.out SP.out HAT.out hF
                    subst hFe
                    have Bz : Hid (Below w.heap.size w wa) := (B5.out.trans (B6.out.mono B5.out.size)).trans ((hB9.trans (hBa.mono hB9.size)).mono (Nat.le_trans B5.out.size B6.out.size))
                    clear hF hBa hB9 hV9
                    go_wp2
                    go_ret
                    exact ⟨by simp, Bz.out⟩
    · have hne' : ((n0 : Int) != (n1 : Int)) = true := by rw [bne_iff_ne]; omega
      go_enter Try.func3, Try.ntmps3
      go_wp2_with (go_at_call 5; refine (zzBytes5 _ _ _ _ _ _ _ _ _ LM.out.1 LM.out.2).mono ?_; rintro e w' ⟨⟨r, rfl, -⟩, hw⟩; rw [hw]; clear hw)
      all_goals (go_ret; exact ⟨rfl, Below.refl _ _⟩)
  · go_enter Try.func3, Try.ntmps3
    go_wp2_with (go_at_call 5; refine (zzBytes5 _ _ _ _ _ _ _ _ _ LM.out.1 LM.out.2).mono ?_; rintro e w' ⟨⟨r, rfl, -⟩, hw⟩; rw [hw]; clear hw)
    all_goals (go_ret; exact ⟨rfl, Below.refl _ _⟩)

end Go.Proofs.Qxb6608865a
