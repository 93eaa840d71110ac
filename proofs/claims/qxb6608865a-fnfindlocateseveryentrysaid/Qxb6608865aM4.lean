import Derived.Test.Qxb6608865aLaw
namespace Go.Proofs.Qxb6608865a
open Go.RowKit
set_option linter.unusedSimpArgs false
set_option linter.unusedVariables false

theorem wrap_succ {x : Int} (h : (Lit.int .u64 x).wf = true) (h2 : (x != 18446744073709551615) = true) : IntKind.u64.wrap (x + 1) = x + 1 := by
  have hb := bounds_u64 h
  rw [bne_iff_ne] at h2
  rw [IntKind.wrap_u64]
  omega

set_option maxRecDepth 100000 in
set_option maxHeartbeats 1000000 in
theorem main4 (a0 a1 : Option Addr) (n0 c0 n1 c1 : Nat) (cs ns : Nat → Int) (w : World)
    (h0 : Rd w a0 n0 (fun i => .int .u64 (cs i))) (h1 : Rd w a1 n1 (fun i => .int .u64 (ns i)))
    (l0 : n0 ≤ maxLen) (l1 : n1 ≤ maxLen) (hwf : ∀ i, i < n1 → (Lit.int .u64 (ns i)).wf = true) :
    Calls Try.prog 4 #[.slice a0 n0 c0, .slice a1 n1 c1] w fun e w' => e = .returned (.bool true) ∧ Below w.heap.size w w' := by
  have q22 : ∀ (w : World) (a : Option Addr) (n c n' c' : Nat), (binOp .neq 22 (.slice a n c) (.slice none n' c')).run Try.prog w = .ok (.bool (!a.isNone)) w := fun w a n c n' c' => run_neq_slice_nil_any w _ _ a n c n' c' Try.underlying22
  have H0 : Hid (Rd w a0 n0 (fun i => .int .u64 (cs i))) := h0
  have H1 : Hid (Rd w a1 n1 (fun i => .int .u64 (ns i))) := h1
  have HW : Hid (∀ i, i < n1 → (Lit.int .u64 (ns i)).wf = true) := hwf
  have LM : Hid (n0 ≤ maxLen ∧ n1 ≤ maxLen) := ⟨l0, l1⟩
  unfold maxLen at l0 l1
  clear h0 h1 hwf
  by_cases hsm : n0 ≤ 65536 ∧ n1 ≤ 65536
  · obtain ⟨s0, s1⟩ := hsm
    by_cases hne : n0 = n1
    · subst hne
      go_enter Try.func4, Try.ntmps4
      go_upto_if 39 with (first
        | (go_at_call 10; refine (zzBytes10 _ _ _ _ _ _ _ LM.out.1 LM.out.2).mono ?_; rintro e w' ⟨⟨r, rfl, -⟩, hw⟩; rw [hw]; clear hw)
        | (go_at_call 6; refine (sorted_any _ _ _ _ _ cs ns _ s0 H0.out H1.out).mono ?_; rintro e w' ⟨⟨r2, rfl, hr⟩, m, hw⟩; have HR : Hid (r2 = true → ∀ i, i + 1 < n0 → tlB (cs i) (ns i) (cs (i + 1)) (ns (i + 1)) = true) := hr; clear hr; rw [hw]; clear hw))
      · go_ret
        exact ⟨rfl, Below.refl _ _⟩
      · go_ret
        exact ⟨rfl, below_drewN (Below.refl _ _) _⟩
      have HSo : Hid (Sorted cs ns n0) := HR.out (by have h : (!r2) = false := by assumption
                                                     simpa using h)
      clear HR
      have Ha : Hid (Rd (w.drewN m) a0 n0 (fun i => .int .u64 (cs i))) := H0.out.below (below_drewN (Below.refl _ _) _)
      have Hb : Hid (Rd (w.drewN m) a1 n0 (fun i => .int .u64 (ns i))) := H1.out.below (below_drewN (Below.refl _ _) _)
      have B0 : Hid (Below w.heap.size w (w.drewN m)) := below_drewN (Below.refl _ _) _
      clear H0 H1
      generalize w.drewN m = w0 at *
      go_cut [0] (fun s0 wc => ∃ a c, s0 = .slice a n0 c ∧ Hid (Rd wc a n0 (fun i => .int .u64 (cs i))) ∧ Hid (Below w0.heap.size w0 wc))
      case first =>
        cases a0 with
        | none =>
          go_wp2
          go_meet
          case rel => exact ⟨none, _, rfl, Ha.out, Below.refl _ _⟩
        | some x =>
          have hmk := run_mk1 (P := Try.prog) 22 23 _ 8 Try.underlying22 info23 rfl n0 (by omega) (by omega)
          obtain ⟨W, hcp, hO, hB⟩ := copy_fresh (P := Try.prog) 22 23 (.int .u64 0) Try.underlying22 (info_size info23) w0 x n0 c0 (fun i => .int .u64 (cs i)) (fun _ => rfl) Ha.out
          have HO : Hid (Own W w0.heap.size n0 (fun i => .int .u64 (cs i))) := hO
          clear hO
          go_wp2
          go_meet
          case rel => exact ⟨_, _, rfl, HO.out.rd, hB⟩
      case rest =>
        obtain ⟨b0, d0, rfl, R0, B1⟩ := hcut
        obtain ⟨w1, rfl⟩ : ∃ w1 : World, w1 = wc := ⟨_, rfl⟩
        go_upto_if 48 with fail
        have Hb' : Hid (Rd w1 a1 n0 (fun i => .int .u64 (ns i))) := Hb.out.below B1.out
        clear Ha Hb
        go_cut [1] (fun s0 wc => ∃ a c, s0 = .slice a n0 c ∧ Hid (Rd wc a n0 (fun i => .int .u64 (ns i))) ∧ Hid (Below w1.heap.size w1 wc))
        case first =>
          cases a1 with
          | none =>
            go_wp2
            go_meet
            case rel => exact ⟨none, _, rfl, Hb'.out, Below.refl _ _⟩
          | some x =>
            have hmk := run_mk1 (P := Try.prog) 22 23 _ 8 Try.underlying22 info23 rfl n0 (by omega) (by omega)
            obtain ⟨W, hcp, hO, hB⟩ := copy_fresh (P := Try.prog) 22 23 (.int .u64 0) Try.underlying22 (info_size info23) w1 x n0 c1 (fun i => .int .u64 (ns i)) (fun _ => rfl) Hb'.out
            have HO : Hid (Own W w1.heap.size n0 (fun i => .int .u64 (ns i))) := hO
            clear hO
            go_wp2
            go_meet
            case rel => exact ⟨_, _, rfl, HO.out.rd, hB⟩
        case rest =>
          obtain ⟨b1, d1, rfl, R1, B2'⟩ := hcut
          obtain ⟨w2, rfl⟩ : ∃ w2 : World, w2 = wc := ⟨_, rfl⟩
          have R0' : Hid (Rd w2 b0 n0 (fun i => .int .u64 (cs i))) := R0.out.below B2'.out
          have B2 : Hid (Below w.heap.size w w2) := B0.out.trans ((B1.out.trans (B2'.out.mono B1.out.size)).mono B0.out.size)
          clear R0 B0 B1 B2' Hb'
          go_wp2_with fail
          refine (newVS b0 b1 d0 d1 n0 n0 cs ns w2 (by omega) (Nat.le_refl _) R0'.out R1.out).mono ?_
          rintro e w3 ⟨g, rfl, hV, hB3⟩
          have HV : Hid (VS w3 g n0 cs ns) := hV
          have B3 : Hid (Below w2.heap.size w2 w3) := hB3
          clear hV hB3
          have R0 : Hid (Rd w3 b0 n0 (fun i => .int .u64 (cs i))) := R0'.out.below B3.out
          have R1' : Hid (Rd w3 b1 n0 (fun i => .int .u64 (ns i))) := R1.out.below B3.out
          have B3' : Hid (Below w.heap.size w w3) := B2.out.trans (B3.out.mono B2.out.size)
          clear R0' R1 B2 B3
          go_wp2
          go_loopg [9] n0 (fun kx s wr => ∃ k : Nat, k ≤ n0 ∧ s = .int .i64 k ∧ n0 - k ≤ kx ∧ Hid (Below w3.heap.size w3 wr))
          case atStart => exact ⟨0, Nat.zero_le _, rfl, by omega, Below.refl _ _⟩
          case round =>
            obtain ⟨k, hk, rfl, hgh, hb⟩ := hrel
            by_cases hlt : k < n0
            · rcases R0.out with e0 | ⟨bb, o0, ha0, hb0, hc0⟩
              · omega
              rcases R1'.out with e1 | ⟨bc, o1, ha1, hb1, hc1⟩
              · omega
              have x0 : wr.cell? ⟨bb, o0 + k, none⟩ = some (.int .u64 (cs k)) := by rw [hb.out.cell hb0]; exact hc0 k hlt
              have x1 : wr.cell? ⟨bc, o1 + k, none⟩ = some (.int .u64 (ns k)) := by rw [hb.out.cell hb1]; exact hc1 k hlt
              subst ha0 ha1
              have call1 : Hid (∀ W, Below w3.heap.size w3 W → Calls Try.prog 8 #[.slice (some ⟨g, 0, none⟩) n0 n0, .int .u64 (cs k), .int .u64 (ns k)] W fun e w' => e = .returned (.tuple #[.int .i64 k, .bool true]) ∧ Below w3.heap.size w3 w') :=
                fun W hW => (zzfind g n0 cs ns _ _ W (by omega) (HV.out.below hW) (HSo.out.mono _ _)).mono fun e w' ⟨hF, hB⟩ => ⟨self_found HSo.out hlt hF, hW.trans (hB.mono hW.size)⟩
              go_wp2
              go_cut [10, 11] (fun s10 s11 wc => s10 = .int .i64 k ∧ s11 = .bool true ∧ Hid (Below w3.heap.size w3 wc))
              case first =>
                go_region_with (go_at_call 8; refine (call1.out _ (by first | exact hb.out | exact hb.out.drew | exact hb.out.drew.drew)).mono ?_; rintro e w' ⟨rfl, hB⟩)
                all_goals
                  go_wp2
                  go_meet
                  case rel => exact ⟨rfl, rfl, hB⟩
              case rest =>
                obtain ⟨rfl, rfl, hb4⟩ := hcut
                obtain ⟨w4, rfl⟩ : ∃ w4 : World, w4 = wc := ⟨_, rfl⟩
                clear hb x0 x1 call1
                have x0 : w4.cell? ⟨bb, o0 + k, none⟩ = some (.int .u64 (cs k)) := by rw [hb4.out.cell hb0]; exact hc0 k hlt
                have x1 : w4.cell? ⟨bc, o1 + k, none⟩ = some (.int .u64 (ns k)) := by rw [hb4.out.cell hb1]; exact hc1 k hlt
                go_wp2
                · have hmax : (ns k != 18446744073709551615) = true := by assumption
                  have hwr : IntKind.u64.wrap (ns k + 1) = ns k + 1 := wrap_succ (HW.out k hlt) hmax
                  have call2 : Hid (∀ W, Below w3.heap.size w3 W → Calls Try.prog 8 #[.slice (some ⟨g, 0, none⟩) n0 n0, .int .u64 (cs k), .int .u64 (ns k + 1)] W fun e w' => e = .returned (.tuple #[.int .i64 ((k : Int) + 1), .bool (isAt cs ns (cs k) (ns k + 1) n0 (k + 1))]) ∧ Below w3.heap.size w3 w') :=
                    fun W hW => (zzfind g n0 cs ns _ _ W (by omega) (HV.out.below hW) (HSo.out.mono _ _)).mono fun e w' ⟨hF, hB⟩ => ⟨next_found HSo.out hlt hF, hW.trans (hB.mono hW.size)⟩
                  clear hmax
                  go_cut [12, 13] (fun s10 s11 wc => s10 = .int .i64 ((k : Int) + 1) ∧ s11 = .bool (isAt cs ns (cs k) (ns k + 1) n0 (k + 1)) ∧ Hid (Below w3.heap.size w3 wc))
                  case first =>
                    go_region_with (go_at_call 8; refine (call2.out _ (by first | exact hb4.out | exact hb4.out.drew | exact hb4.out.drew.drew)).mono ?_; rintro e w' ⟨rfl, hB⟩)
                    all_goals
                      go_wp2
                      go_meet
                      case rel => exact ⟨rfl, rfl, hB⟩
                  case rest =>
                    obtain ⟨rfl, rfl, hb5⟩ := hcut
                    obtain ⟨w5, rfl⟩ : ∃ w5 : World, w5 = wc := ⟨_, rfl⟩
                    clear hb4 x0 x1 call2
                    have x0 : w5.cell? ⟨bb, o0 + k, none⟩ = some (.int .u64 (cs k)) := by rw [hb5.out.cell hb0]; exact hc0 k hlt
                    have x1 : w5.cell? ⟨bc, o1 + k, none⟩ = some (.int .u64 (ns k)) := by rw [hb5.out.cell hb1]; exact hc1 k hlt
                    have hwk : IntKind.i64.wrap ((k : Int) + 1) = (k : Int) + 1 := by rw [IntKind.wrap_i64]; omega
                    by_cases hk1 : k + 1 < n0
                    · have y0 : w5.cell? ⟨bb, o0 + (k + 1), none⟩ = some (.int .u64 (cs (k + 1))) := by rw [hb5.out.cell hb0]; exact hc0 _ hk1
                      have y1 : w5.cell? ⟨bc, o1 + (k + 1), none⟩ = some (.int .u64 (ns (k + 1))) := by rw [hb5.out.cell hb1]; exact hc1 _ hk1
                      have hk2 : (k : Int) + 1 < (n0 : Int) := by omega
                      have hk3 : ((k : Int) + 1).toNat = k + 1 := by omega
                      have hk4 : (0 : Int) ≤ (k : Int) + 1 := by omega
                      cases hq : (cs (k + 1) == cs k) with
                      | true =>
                        have HQ : Hid (isAt cs ns (cs k) (ns k + 1) n0 (k + 1) = (ns (k + 1) == ns k + 1)) := by simp [isAt, hk1, hq, Hid]
                        rw [HQ.out]
                        clear hc0 hc1
                        go_wp2
                        go_quiet (fail)
                        go_wp2
                        go_roundg (n0 - (k + 1))
                        case measure => omega
                        case rel => exact ⟨k + 1, by omega, by go_num, Nat.le_refl _, below_drewN hb5.out _⟩
                      | false =>
                        have HQ : Hid (isAt cs ns (cs k) (ns k + 1) n0 (k + 1) = false) := by simp [isAt, hk1, hq, Hid]
                        rw [HQ.out]
                        clear hc0 hc1
                        go_wp2
                        go_quiet (fail)
                        go_wp2
                        go_roundg (n0 - (k + 1))
                        case measure => omega
                        case rel => exact ⟨k + 1, by omega, by go_num, Nat.le_refl _, below_drewN hb5.out _⟩
                    · have HQ : Hid (isAt cs ns (cs k) (ns k + 1) n0 (k + 1) = false) := by simp [isAt, hk1, Hid]
                      have hd : decide ((k : Int) + 1 < (n0 : Int)) = false := by simp; omega
                      rw [HQ.out]
                      clear hc0 hc1
                      go_wp2
                      go_quiet (fail)
                      go_wp2
                      go_roundg (n0 - (k + 1))
                      case measure => omega
                      case rel => exact ⟨k + 1, by omega, by go_num, Nat.le_refl _, below_drewN hb5.out _⟩
                · go_roundg (n0 - (k + 1))
                  case measure => omega
                  case rel => exact ⟨k + 1, by omega, by go_num, Nat.le_refl _, hb4.out⟩
            · go_wp2
              go_ret
              exact ⟨rfl, B3'.out.trans (hb.out.mono B3'.out.size)⟩
    · have hne' : ((n0 : Int) != (n1 : Int)) = true := by rw [bne_iff_ne]; omega
      go_enter Try.func4, Try.ntmps4
      go_wp2_with (go_at_call 10; refine (zzBytes10 _ _ _ _ _ _ _ LM.out.1 LM.out.2).mono ?_; rintro e w' ⟨⟨r, rfl, -⟩, hw⟩; rw [hw]; clear hw)
      all_goals (go_ret; exact ⟨rfl, Below.refl _ _⟩)
  · go_enter Try.func4, Try.ntmps4
    go_wp2_with (go_at_call 10; refine (zzBytes10 _ _ _ _ _ _ _ LM.out.1 LM.out.2).mono ?_; rintro e w' ⟨⟨r, rfl, -⟩, hw⟩; rw [hw]; clear hw)
    all_goals (go_ret; exact ⟨rfl, Below.refl _ _⟩)

end Go.Proofs.Qxb6608865a
