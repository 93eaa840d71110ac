import Derived.Test.Qxb6609005aS2
import Derived.Test.Qxb6609005aS3
import Derived.Test.Qxb6609005aS4
import Derived.Test.Qxb6609005aS5
import Derived.Test.Qxb6609005aS8
import Derived.Sort.Walk13
import Derived.Deep.Cut
namespace Go.Proofs.Qxb6609005a
open Go.RowKit
set_option linter.unusedSimpArgs false
set_option linter.unusedVariables false
set_option linter.unusedSectionVars false
variable {α : Type} [Inhabited α] {Inv : World → Array α → Prop} {lt : α → α → Bool} {g : Nat} {lb : Array Value} {sf : Nat} {sb : Array Value} {row n : Nat}


set_option maxHeartbeats 12800000 in
set_option maxRecDepth 1000000 in
theorem pdq_any (S : Sorter Inv lt g lb sf sb row n) (hO : Sort.SWO lt) (h16 : n < 65536) :
    ∀ (N a b limit : Nat) (d : Array α) (w : World), b - a < N → Inv w d → a ≤ b → b ≤ n → limit < 4611686018427387904 → Sort.Below lt a b d →
    Calls Try.prog 49 #[.agg #[.func (.func g) #[] lb, .func (.func sf) #[] sb], .int .i64 a, .int .i64 b, .int .i64 limit] w fun e w' => e = .returned (.tuple #[]) ∧ Done Inv row w w' (Sort.pdq lt d a b limit true true) := by
  have eg := S.enter
  have HS : Hid (Sorter Inv lt g lb sf sb row n) := S
  have HO : Hid (Sort.SWO lt) := hO
  have hsize : Hid (∀ w d, Inv w d → d.size = n) := S.size
  clear hO
  intro N
  induction N with
  | zero => intro _ _ _ _ _ h; exact absurd h (Nat.not_lt_zero _)
  | succ N ih =>
    intro a b limit d w hN hI hab hb hlimit hBel0
    have IH : Hid _ := ih
    have F0 : Fr Inv row g lb sf sb w (w.alloc (.cells #[.func (.func g) #[] lb, .func (.func sf) #[] sb] 111)) d := Fr.start S hI
    have BB0 : Hid (Sort.Below lt a b d) := hBel0
    clear hI S ih hBel0
    go_enter Try.func49, Try.ntmps49
    go_wp2
    generalize w.alloc (.cells #[.func (.func g) #[] lb, .func (.func sf) #[] sb] 111) = w1 at F0 ⊢
    go_loopg [1, 2, 3, 8, 9] (b - a) (fun kx s1 s2 s3 s8 s9 wr => ∃ (a' b' lim : Nat) (wb wp : Bool) (dk : Array α), s1 = .int .i64 a' ∧ s2 = .int .i64 b' ∧ s3 = .int .i64 lim ∧ s8 = .bool wb ∧ s9 = .bool wp ∧
      a' ≤ b' ∧ b' ≤ n ∧ b' - a' ≤ kx ∧ kx ≤ b - a ∧ lim ≤ limit ∧ Hid (Sort.Below lt a' b' dk) ∧ Fr Inv row g lb sf sb w wr dk ∧ Hid (Sort.pdq lt dk a' b' lim wb wp = Sort.pdq lt d a b limit true true))
    case atStart => exact ⟨a, b, limit, true, true, d, rfl, rfl, rfl, rfl, rfl, hab, hb, Nat.le_refl _, Nat.le_refl _, Nat.le_refl _, BB0, F0, rfl⟩
    case round =>
      clear F0 BB0
      obtain ⟨a', b', lim, wb, wp, dk, rfl, rfl, rfl, rfl, rfl, hab', hb', hkx, hkN, hlim, hBel, F, A⟩ := hrel
      have x0 := F.c0
      have x1 := F.c1
      by_cases h12 : b' - a' ≤ 12
      · have h12z : (b' : Int) - (a' : Int) ≤ 12 := by omega
        have hc := insertion_any HS.out a' b' dk wr F.inv hab' hb'
        go_wp2_with fail
        go_at_call 62
        refine hc.mono ?_
        rintro e w1 ⟨rfl, D⟩
        go_wp2
        (try simp only [Exit.inBlock, Exit.then]); refine bodyPost_ret (results_none rfl _ _ _) rfl ?_
        refine ⟨rfl, ?_⟩
        rw [← A.out, Sort.pdq_small h12]
        exact (F.on D).done
      · have h12z : ¬ ((b' : Int) - (a' : Int) ≤ 12) := by omega
        by_cases hl0 : lim = 0
        · subst hl0
          have hc := heapSort_any HS.out a' b' dk wr F.inv hab' hb'
          go_wp2_with fail
          go_at_call 63
          refine hc.mono ?_
          rintro e w1 ⟨rfl, D⟩
          go_wp2
          (try simp only [Exit.inBlock, Exit.then]); refine bodyPost_ret (results_none rfl _ _ _) rfl ?_
          refine ⟨rfl, ?_⟩
          rw [← A.out, Sort.pdq_heap h12 rfl]
          exact (F.on D).done
        · have hl0z : ¬ ((lim : Int) = 0) := by omega
          have hdk := hsize.out _ _ F.inv
          obtain ⟨s1, B1, hc1, s2, B2, hpv, s3, B3⟩ := Sort.rd_facts (lt := lt) (limit := lim) (wb := wb) (wp := wp) HO.out Sort.partialInsertionSort_holds Sort.reverseRange_holds (show a' < b' by omega) (show b' ≤ dk.size by omega) hBel.out
          have hlimle : (Sort.rd lt dk a' b' lim wb wp).lim ≤ lim := Sort.rd_lim_le
          have hlimv : Hid ((wb = false → (Sort.rd lt dk a' b' lim wb wp).lim = lim - 1 ∧ (Sort.rd lt dk a' b' lim wb wp).d1 = Sort.breakPatterns dk a' b') ∧ (wb = true → (Sort.rd lt dk a' b' lim wb wp).lim = lim ∧ (Sort.rd lt dk a' b' lim wb wp).d1 = dk)) := ⟨fun h => by subst h; exact ⟨Sort.rd_false.2, Sort.rd_false.1⟩, fun h => by subst h; exact ⟨Sort.rd_true.2, Sort.rd_true.1⟩⟩
          have hcv : Hid ((Sort.rd lt dk a' b' lim wb wp).c = Sort.choosePivot lt (Sort.rd lt dk a' b' lim wb wp).d1 a' b') := Sort.rd_c
          have hdec : Hid ((Sort.rd lt dk a' b' lim wb wp).c.2 = .decreasing → (Sort.rd lt dk a' b' lim wb wp).d2 = Sort.reverseRange (Sort.rd lt dk a' b' lim wb wp).d1 a' b' ∧ (Sort.rd lt dk a' b' lim wb wp).pivot = (b' - 1) - ((Sort.rd lt dk a' b' lim wb wp).c.1 - a') ∧ (Sort.rd lt dk a' b' lim wb wp).hint = .increasing) := Sort.rd_dec
          have hnot : Hid ((Sort.rd lt dk a' b' lim wb wp).c.2 ≠ .decreasing → (Sort.rd lt dk a' b' lim wb wp).d2 = (Sort.rd lt dk a' b' lim wb wp).d1 ∧ (Sort.rd lt dk a' b' lim wb wp).pivot = (Sort.rd lt dk a' b' lim wb wp).c.1 ∧ (Sort.rd lt dk a' b' lim wb wp).hint = (Sort.rd lt dk a' b' lim wb wp).c.2) := Sort.rd_not
          have hpy : Hid ((wb && wp && decide ((Sort.rd lt dk a' b' lim wb wp).hint = .increasing)) = true → (Sort.rd lt dk a' b' lim wb wp).pi = Sort.partialInsertionSort lt (Sort.rd lt dk a' b' lim wb wp).d2 a' b') := Sort.rd_pi_yes
          have hpn : Hid ((wb && wp && decide ((Sort.rd lt dk a' b' lim wb wp).hint = .increasing)) = false → (Sort.rd lt dk a' b' lim wb wp).pi = ((Sort.rd lt dk a' b' lim wb wp).d2, false)) := Sort.rd_pi_no
          have q1 : Hid ((Sort.rd lt dk a' b' lim wb wp).pi.2 = true → Sort.pdq lt dk a' b' lim wb wp = (Sort.rd lt dk a' b' lim wb wp).pi.1) := fun h => Sort.pdq_done h12 hl0 h
          have q2 : Hid (∀ mid d4, (Sort.rd lt dk a' b' lim wb wp).pi.2 = false → (decide (a' > 0) && !lt (Sort.rd lt dk a' b' lim wb wp).pi.1[a' - 1]! (Sort.rd lt dk a' b' lim wb wp).pi.1[(Sort.rd lt dk a' b' lim wb wp).pivot]!) = true → Sort.partitionEqual lt (Sort.rd lt dk a' b' lim wb wp).pi.1 a' b' (Sort.rd lt dk a' b' lim wb wp).pivot = (mid, d4) → a' < mid ∧ mid ≤ b' → Sort.pdq lt dk a' b' lim wb wp = Sort.pdq lt d4 mid b' (Sort.rd lt dk a' b' lim wb wp).lim wb wp) := fun mid d4 h1 h2 hx h3 => by
            rw [Sort.pdq_eq h12 hl0 h1 h2 (by rw [hx]; exact h3), hx]
          have q3 : Hid (∀ mid ap d4, (Sort.rd lt dk a' b' lim wb wp).pi.2 = false → (decide (a' > 0) && !lt (Sort.rd lt dk a' b' lim wb wp).pi.1[a' - 1]! (Sort.rd lt dk a' b' lim wb wp).pi.1[(Sort.rd lt dk a' b' lim wb wp).pivot]!) = false → Sort.partition lt (Sort.rd lt dk a' b' lim wb wp).pi.1 a' b' (Sort.rd lt dk a' b' lim wb wp).pivot = (mid, ap, d4) → a' ≤ mid ∧ mid < b' →
              (mid - a' < b' - mid → Sort.pdq lt dk a' b' lim wb wp = Sort.pdq lt (Sort.pdq lt d4 a' mid (Sort.rd lt dk a' b' lim wb wp).lim true true) (mid + 1) b' (Sort.rd lt dk a' b' lim wb wp).lim (decide (mid - a' ≥ (b' - a') / 8)) ap) ∧
              (¬ mid - a' < b' - mid → Sort.pdq lt dk a' b' lim wb wp = Sort.pdq lt (Sort.pdq lt d4 (mid + 1) b' (Sort.rd lt dk a' b' lim wb wp).lim true true) a' mid (Sort.rd lt dk a' b' lim wb wp).lim (decide (b' - mid ≥ (b' - a') / 8)) ap)) := fun mid ap d4 h1 h2 hx h3 =>
            ⟨fun h4 => by rw [Sort.pdq_left h12 hl0 h1 h2 (by rw [hx]; exact h3) (by rw [hx]; exact h4), hx], fun h4 => by rw [Sort.pdq_right h12 hl0 h1 h2 (by rw [hx]; exact h3) (by rw [hx]; exact h4), hx]⟩
          generalize Sort.rd lt dk a' b' lim wb wp = R at *
          obtain ⟨Rd1, Rlim, ⟨Rc1, Rc2⟩, Rd2, Rpv, Rhint, ⟨Rp1, Rp2⟩⟩ := R
          simp only [] at s1 B1 hc1 s2 B2 hpv s3 B3 hlimle hlimv hcv hdec hnot hpy hpn q1 q2 q3
          have KB : Hid (Sort.Below lt a' b' Rp1) := B3
          have KS : Hid (Rp1.size = dk.size) := s3
          clear B1 B2 B3 s1 s2 s3 hBel
          -- if !wasBalanced
          go_upto_if 35 with fail
          go_cut [3] from 19 to 129 (fun s3 wc => s3 = .int .i64 Rlim ∧ Fr Inv row g lb sf sb w wc Rd1)
          case first =>
            cases wb
            · obtain ⟨el, ed⟩ := hlimv.out.1 rfl
              have hc := breakPatterns_any HS.out h16 a' b' dk wr F.inv (by omega) hb'
              go_wp2_with fail
              go_at_call 64
              refine hc.mono ?_
              rintro e w1 ⟨rfl, D⟩
              go_wp2_with fail
              go_meet
              case rel => exact ⟨by rw [el]; congr 1; omega, by rw [ed]; exact F.on D⟩
            · obtain ⟨el, ed⟩ := hlimv.out.2 rfl
              go_wp2_with fail
              go_meet
              case rel => exact ⟨by rw [el], by rw [ed]; exact F⟩
          case rest =>
            clear F x0 x1 hlimv
            obtain ⟨rfl, F⟩ := hcut
            have x0 := F.c0
            have x1 := F.c1
            have hc17 := choosePivot_any HS.out a' b' Rd1 wc F.inv (by omega) hb'
            rw [← hcv.out] at hc17
            simp only [] at hc17
            clear hcv
            go_upto_if 50 with (go_at_call 65; refine hc17.mono ?_; rintro e w2 ⟨rfl, D⟩)
            have F2 := F.on D
            have y0 := F2.c0
            have y1 := F2.c1
            clear F x0 x1 D hc17
            go_cut [11, 12] from 19 to 129 (fun s11 s12 wc => s11 = .int .i64 Rpv ∧ s12 = .int .i64 (Sort.hintCode Rhint) ∧ Fr Inv row g lb sf sb w wc Rd2)
            case first =>
              by_cases hh : Rc2 = .decreasing
              · have hcode : Sort.hintCode Rc2 = 2 := by rw [hh]; rfl
                obtain ⟨e2, epv, eht⟩ := hdec.out hh
                have hc18 := reverseRange_any HS.out a' b' Rd1 w2 F2.inv (by omega) hb'
                go_wp2_with fail
                go_at_call 66
                refine hc18.mono ?_
                rintro e w3 ⟨rfl, D⟩
                go_wp2_with fail
                go_meet
                case rel => exact ⟨by rw [epv]; congr 1; omega, by rw [eht]; rfl, by rw [e2]; exact F2.on D⟩
              · have hcode : ¬ (Sort.hintCode Rc2 = 2) := fun h => hh (hintCode_two h)
                obtain ⟨e2, epv, eht⟩ := hnot.out hh
                go_wp2_with fail
                go_meet
                case rel => exact ⟨by rw [epv], by rw [eht], by rw [e2]; exact F2⟩
            case rest =>
              clear F2 y0 y1
              obtain ⟨rfl, rfl, F⟩ := hcut
              have x0 := F.c0
              have x1 := F.c1
              obtain ⟨v, hv⟩ : ∃ v : Bool, Hid (v = (wb && wp && decide (Rhint = .increasing))) := ⟨_, rfl⟩
              go_upto_region 16 with fail
              go_cut [12, 68] from 19 to 129 (fun s12 s68 wx => s12 = .int .i64 (Sort.hintCode Rhint) ∧ s68 = .bool v ∧ wx = wc)
              case first =>
                have hv' := hv.out
                clear hv
                cases wb <;> cases wp <;> cases Rhint <;>
                  (simp only [Sort.hintCode]
                   go_wp2_with fail
                   go_meet
                   exact ⟨by simp [Sort.hintCode], by rw [hv']; simp, rfl⟩)
              case rest =>
                obtain ⟨rfl, rfl, rfl⟩ := hcut
                go_upto_if 68 with fail
                go_cut [] from 19 to 129 (fun wx => Rp2 = false ∧ Fr Inv row g lb sf sb w wx Rp1)
                case first =>
                  cases v with
                  | false =>
                    have epi := hpn.out hv.out.symm
                    simp only [Prod.mk.injEq] at epi
                    go_wp2_with fail
                    go_meet
                    case rel => exact ⟨epi.2, by rw [epi.1]; exact F⟩
                  | true =>
                    have epi := hpy.out hv.out.symm
                    have hc19 := partialInsertion_any HS.out a' b' Rd2 _ F.inv (by omega) hb'
                    rw [← epi] at hc19
                    simp only [] at hc19
                    clear epi
                    cases Rp2 with
                    | false =>
                      go_wp2_with fail
                      go_at_call 67
                      refine hc19.mono ?_
                      rintro e w4 ⟨rfl, D⟩
                      go_wp2_with fail
                      go_meet
                      case rel => exact ⟨by simp, F.on D⟩
                    | true =>
                      go_wp2_with fail
                      go_at_call 67
                      refine hc19.mono ?_
                      rintro e w4 ⟨rfl, D⟩
                      go_wp2
                      (try simp only [Exit.inBlock, Exit.then]); refine bodyPost_ret (results_none rfl _ _ _) rfl ?_
                      refine ⟨rfl, ?_⟩
                      rw [← A.out, q1.out (by simp)]
                      exact (F.on D).done
                case rest =>
                  clear F x0 x1 hv hpy hpn q1 hdec hnot
                  obtain ⟨hp2, F⟩ := hcut
                  have x0 := F.c0
                  have x1 := F.c1
                  obtain ⟨v, hv⟩ : ∃ v : Bool, Hid (v = (decide (a' > 0) && !lt Rp1[a' - 1]! Rp1[Rpv]!)) := ⟨_, rfl⟩
                  go_upto_region 18 with fail
                  go_cut [83] from 19 to 129 (fun s83 wx => s83 = .bool v ∧ Fr Inv row g lb sf sb w wx Rp1)
                  case first =>
                    have hv' := hv.out
                    clear hv
                    rcases Nat.eq_zero_or_pos a' with ha0 | ha0
                    · have ha0z : decide ((a' : Int) > 0) = false := decide_eq_false (by omega)
                      go_wp2_with fail
                      go_meet
                      case rel => exact ⟨by rw [hv']; simp [ha0], F⟩
                    · have ha0z : (a' : Int) > 0 := by omega
                      cases hlv : lt Rp1[a' - 1]! Rp1[Rpv]! with
                      | true =>
                        have hl := F.less HS.out (a' - 1) Rpv ((a' : Int) - 1) (Rpv : Int) (by omega) hlv
                        go_wp2_with (go_at_fn g; refine hl.mono ?_; rintro e w' ⟨rfl, F'⟩)
                        go_meet
                        case rel => exact ⟨by rw [hv']; simp [ha0, hlv], F'⟩
                      | false =>
                        have hl := F.less HS.out (a' - 1) Rpv ((a' : Int) - 1) (Rpv : Int) (by omega) hlv
                        go_wp2_with (go_at_fn g; refine hl.mono ?_; rintro e w' ⟨rfl, F'⟩)
                        go_meet
                        case rel => exact ⟨by rw [hv']; simp [ha0, hlv], F'⟩
                  case rest =>
                    clear F x0 x1
                    obtain ⟨rfl, F⟩ := hcut
                    have x0 := F.c0
                    have x1 := F.c1
                    have hsz := hsize.out _ _ F.inv
                    cases v with
                    | false =>
                      obtain ⟨mid, ap, d4, hx⟩ : ∃ mid ap d4, Sort.partition lt Rp1 a' b' Rpv = (mid, ap, d4) := ⟨_, _, _, rfl⟩
                      obtain ⟨r1, r2, r3, r4, r5, r6, r7⟩ := Sort.round_part HO.out (Sort.partition_holds lt) hpv.1 hpv.2 (show b' ≤ Rp1.size by omega) KB.out hx
                      have hc22 := partition_any HS.out a' b' Rpv Rp1 _ F.inv hpv.1 hpv.2 hb'
                      rw [hx] at hc22
                      simp only [] at hc22
                      have Q := q3.out mid ap d4 hp2 hv.out.symm hx ⟨r1, r2⟩
                      have QL : Hid _ := Q.1
                      have QR : Hid _ := Q.2
                      have K4 : Hid (Sort.Below lt a' mid d4) := r4
                      have K5 : Hid (Sort.Below lt (mid + 1) b' d4) := r5
                      have K6 : Hid _ := r6
                      have K7 : Hid _ := r7
                      clear hx Q r4 r5 r6 r7 q2 q3 hv
                      go_upto_if 109 with (go_at_call 69; refine hc22.mono ?_; rintro e w7 ⟨rfl, D⟩)
                      have F7 := F.on D
                      have z0 := F7.c0
                      have z1 := F7.c1
                      have hs4 := hsize.out _ _ F7.inv
                      clear F x0 x1 D hc22
                      by_cases h4 : mid - a' < b' - mid
                      · have h4z : (mid : Int) - (a' : Int) < (b' : Int) - (mid : Int) := by omega
                        have hih := IH.out a' mid Rlim d4 w7 (by omega) F7.inv (by omega) (by omega) (by omega) K4.out
                        obtain ⟨pL, sL⟩ := Sort.pdq_sorts lt HO.out d4 a' mid Rlim true true (by omega) (by omega) K4.out
                        have KL : Hid (Sort.Below lt (mid + 1) b' (Sort.pdq lt d4 a' mid Rlim true true)) := (K6.out _ pL sL).1
                        clear pL sL
                        go_wp2_with fail
                        go_at_call 49
                        refine hih.mono ?_
                        rintro e w8 ⟨rfl, D⟩
                        have F8 := F7.on D
                        go_wp2
                        go_roundg (b' - (mid + 1))
                        case measure => omega
                        case rel =>
                          refine ⟨mid + 1, b', Rlim, decide (mid - a' ≥ (b' - a') / 8), ap, _, by simp, rfl, rfl, ?_, rfl, by omega, by omega, Nat.le_refl _, by omega, by omega, KL, F8, ?_⟩
                          · exact congrArg Value.bool (eighth (by omega) (by omega))
                          · exact (show Hid _ from by rw [← A.out, QL.out h4]; exact rfl)
                      · have h4z : ¬ ((mid : Int) - (a' : Int) < (b' : Int) - (mid : Int)) := by omega
                        have hih := IH.out (mid + 1) b' Rlim d4 w7 (by omega) F7.inv (by omega) (by omega) (by omega) K5.out
                        rw [show ((mid + 1 : Nat) : Int) = (mid : Int) + 1 by omega] at hih
                        obtain ⟨pL, sL⟩ := Sort.pdq_sorts lt HO.out d4 (mid + 1) b' Rlim true true (by omega) (by omega) K5.out
                        have KL : Hid (Sort.Below lt a' mid (Sort.pdq lt d4 (mid + 1) b' Rlim true true)) := (K7.out _ pL sL).1
                        clear pL sL
                        go_wp2_with fail
                        go_at_call 49
                        refine hih.mono ?_
                        rintro e w8 ⟨rfl, D⟩
                        have F8 := F7.on D
                        go_wp2
                        go_roundg (mid - a')
                        case measure => omega
                        case rel =>
                          refine ⟨a', mid, Rlim, decide (b' - mid ≥ (b' - a') / 8), ap, _, rfl, rfl, rfl, ?_, rfl, by omega, by omega, Nat.le_refl _, by omega, by omega, KL, F8, ?_⟩
                          · exact congrArg Value.bool (eighth (by omega) (by omega))
                          · exact (show Hid _ from by rw [← A.out, QR.out h4]; exact rfl)
                    | true =>
                      have h87' := hv.out.symm
                      simp only [Bool.and_eq_true, decide_eq_true_eq, Bool.not_eq_true'] at h87'
                      obtain ⟨mid, d4, hx⟩ : ∃ mid d4, Sort.partitionEqual lt Rp1 a' b' Rpv = (mid, d4) := ⟨_, _, rfl⟩
                      obtain ⟨r1, r2, r3, r4, _⟩ := Sort.round_eq HO.out (Sort.partitionEqual_holds lt) h87'.1 hpv.1 hpv.2 (show b' ≤ Rp1.size by omega) KB.out h87'.2 hx
                      have hc21 := partitionEqual_any HS.out a' b' Rpv Rp1 _ F.inv hpv.1 hpv.2 hb'
                      rw [hx] at hc21
                      simp only [] at hc21
                      have Q : Hid _ := q2.out mid d4 hp2 hv.out.symm hx ⟨r1, r2⟩
                      have K4 : Hid (Sort.Below lt mid b' d4) := r4
                      clear hx r4 q2 q3 hv h87'
                      go_wp2_with fail
                      go_at_call 68
                      refine hc21.mono ?_
                      rintro e w7 ⟨rfl, D⟩
                      have F7 := F.on D
                      go_wp2
                      go_roundg (b' - mid)
                      case measure => omega
                      case rel => exact ⟨mid, b', Rlim, wb, wp, d4, rfl, rfl, rfl, rfl, rfl, r2, hb', Nat.le_refl _, by omega, by omega, K4, F7, (show Hid _ from by rw [← A.out, Q.out]; exact rfl)⟩

/-- the sort as a whole: a permutation, sorted -/
theorem pdq_sorted (S : Sorter Inv lt g lb sf sb row n) (hO : Sort.SWO lt) (h16 : n < 65536) (limit : Nat) (hl : limit < 4611686018427387904) (d : Array α) (w : World) (hI : Inv w d) :
    Calls Try.prog 49 #[.agg #[.func (.func g) #[] lb, .func (.func sf) #[] sb], .int .i64 0, .int .i64 n, .int .i64 limit] w fun e w' => e = .returned (.tuple #[]) ∧ ∃ d', Done Inv row w w' d' ∧ Sort.PermIn 0 n d d' ∧ Sort.SortedIn lt 0 n d' := by
  have hs := S.size _ _ hI
  have h := pdq_any S hO h16 (n + 1) 0 n limit d w (by omega) hI (Nat.zero_le _) (Nat.le_refl _) hl (Or.inl rfl)
  obtain ⟨hp, hso⟩ := Sort.pdq_sorts lt hO d 0 n limit true true (Nat.zero_le _) (by omega) (Or.inl rfl)
  exact h.mono fun e w' ⟨he, D⟩ => ⟨he, _, D, hp, hso⟩

end Go.Proofs.Qxb6609005a
