import Derived.Test.Qxb6609005aS0
import Derived.Sort.WalkA6
import Derived.Shelf.Abstract
namespace Go.Proofs.Qxb6609005a
open Go.RowKit
set_option linter.unusedSimpArgs false
set_option linter.unusedVariables false
set_option linter.unusedSectionVars false
variable {α : Type} [Inhabited α] {Inv : World → Array α → Prop} {lt : α → α → Bool} {g : Nat} {lb : Array Value} {sf : Nat} {sb : Array Value} {row n : Nat}

set_option maxHeartbeats 8000000 in
set_option maxRecDepth 100000 in
theorem partialInsertion_any (S : Sorter Inv lt g lb sf sb row n) (a b : Nat) (d : Array α) (w : World) (hI : Inv w d) (hab : a < b) (hb : b ≤ n) :
    Calls Try.prog 67 #[.agg #[.func (.func g) #[] lb, .func (.func sf) #[] sb], .int .i64 a, .int .i64 b] w fun e w' => e = .returned (.bool (Sort.partialInsertionSort lt d a b).2) ∧ Done Inv row w w' (Sort.partialInsertionSort lt d a b).1 := by
  have hn := S.small
  have eg := S.enter
  have HS : Hid (Sorter Inv lt g lb sf sb row n) := S
  have F0 : Fr Inv row g lb sf sb w (w.alloc (.cells #[.func (.func g) #[] lb, .func (.func sf) #[] sb] 111)) d := Fr.start S hI
  clear hI S
  go_enter Try.func67, Try.ntmps67
  go_wp2
  generalize w.alloc (.cells #[.func (.func g) #[] lb, .func (.func sf) #[] sb] 111) = w1 at F0 ⊢
  go_loopg [7, 8] 5 (fun g1 vi vs wr => ∃ (i s : Nat) (dk : Array α), vi = .int .i64 i ∧ vs = .int .i64 s ∧ s ≤ 5 ∧ 5 - s ≤ g1 ∧ a < i ∧ i ≤ b ∧ Fr Inv row g lb sf sb w wr dk ∧ Hid (Sort.partialIns lt a b (5 - s) i dk = Sort.partialIns lt a b 5 (a + 1) d))
  case atStart => exact ⟨a + 1, 0, d, by go_num, rfl, by omega, by omega, by omega, by omega, F0, rfl⟩
  case round =>
    clear F0
    obtain ⟨i, s, dk, rfl, rfl, hs5, hg1, hai, hib, F, HO⟩ := hrel
    by_cases hs : s < 5
    · have hsz5 : (s : Int) < 5 := by omega
      go_wp2
      go_loopg [7] (b - i) (fun g2 vi wr2 => ∃ (kx : Nat), vi = .int .i64 kx ∧ i ≤ kx ∧ kx ≤ b ∧ b - kx ≤ g2 ∧ Fr Inv row g lb sf sb w wr2 dk ∧ Hid (Sort.scanSorted lt dk b kx = Sort.scanSorted lt dk b i))
      case atStart => exact ⟨i, rfl, Nat.le_refl _, hib, Nat.le_refl _, F, rfl⟩
      case round =>
        clear F
        obtain ⟨kx, rfl, hik, hkb, hg2, F, HSc⟩ := hrel
        have c0 := F.c0
        by_cases hkb' : kx < b
        · have hkz : (kx : Int) < (b : Int) := by omega
          cases hlv : lt dk[kx]! dk[kx - 1]! with
          | false =>
            have hl := F.less HS.out kx (kx - 1) (kx : Int) ((kx : Int) - 1) (by omega) hlv
            go_wp2_with (go_at_fn g; refine hl.mono ?_; rintro e w' ⟨rfl, F'⟩)
            go_roundg (b - (kx + 1))
            case measure => omega
            case rel => exact ⟨kx + 1, by go_num, by omega, by omega, Nat.le_refl _, F', (show Hid _ from by rw [← HSc.out, scanSorted_go lt dk b kx hkb' hlv]; exact rfl)⟩
          | true =>
            have hl := F.less HS.out kx (kx - 1) (kx : Int) ((kx : Int) - 1) (by omega) hlv
            have HK : Hid (Sort.scanSorted lt dk b i = kx) := by show _ = _; rw [← HSc.out, scanSorted_stop lt dk b kx (Or.inr hlv)]
            clear HSc
            have hkne : ¬ ((kx : Int) = (b : Int)) := by omega
            by_cases h50 : b - a < 50
            · have h50z : (b : Int) - (a : Int) < 50 := by omega
              go_wp2_with (go_at_fn g; refine hl.mono ?_; rintro e w' ⟨rfl, F'⟩)
              have hv : Sort.partialInsertionSort lt d a b = (dk, false) := by
                unfold Sort.partialInsertionSort
                rw [← HO.out, pi_short lt a b s i dk hs (by rw [HK.out]; omega) h50]
              rw [hv]
              go_ret
              exact ⟨rfl, F'.done⟩
            · have h50z : ¬ ((b : Int) - (a : Int) < 50) := by omega
              go_upto_if 47 with (go_at_fn g; refine hl.mono ?_; rintro e w' ⟨rfl, F'⟩; have c1' := F'.c1; obtain ⟨w2, hsw, F2⟩ := F'.swap HS.out kx (kx - 1) (kx : Int) ((kx : Int) - 1) (by omega))
              obtain ⟨X, hX⟩ : ∃ X, X = Sort.swp dk kx (kx - 1) := ⟨_, rfl⟩
              rw [← hX] at F2
              have HO2 : Hid (Sort.partialIns lt a b 5 (a + 1) d = Sort.partialIns lt a b (5 - (s + 1)) kx (Sort.fixUp lt b kx (Sort.fixDown lt a kx X))) := by
                rw [← HO.out, pi_go lt a b s i kx dk hs HK.out (by omega) h50, hX]; exact rfl
              clear hX HO HK F hl c0
              go_cut [9] from 31 to 90 (fun s9 wx => Fr Inv row g lb sf sb w wx (Sort.fixDown lt a kx X))
              case first =>
                by_cases hka : kx - a ≥ 2
                · have hkaz : (2 : Int) ≤ (kx : Int) - (a : Int) := by omega
                  have hk2 : decide ((2 : Int) ≤ (kx : Int) - (a : Int)) = true := by simpa using hkaz
                  have hkb3 : ((kx : Int) == (b : Int)) = false := by simpa using hkne
                  simp only [hk2, hkb3]
                  go_wp2
                  go_loopg [9] (kx - 1) (fun g3 vj wr3 => ∃ (j : Nat) (dj : Array α), vj = .int .i64 j ∧ j ≤ kx - 1 ∧ j ≤ g3 ∧ Fr Inv row g lb sf sb w wr3 dj ∧ Hid (Sort.shiftDown lt j dj = Sort.shiftDown lt (kx - 1) X))
                  case atStart => exact ⟨kx - 1, X, by congr 1; omega, Nat.le_refl _, Nat.le_refl _, F2, rfl⟩
                  case round =>
                    clear F2
                    obtain ⟨j, dj, rfl, hjk, hg3, F, HDn⟩ := hrel
                    have c0 := F.c0
                    by_cases hj1 : 1 ≤ j
                    · have hj1z : (1 : Int) ≤ (j : Int) := by omega
                      cases hlv2 : lt dj[j]! dj[j - 1]! with
                      | true =>
                        have hl2 := F.less HS.out j (j - 1) (j : Int) ((j : Int) - 1) (by omega) hlv2
                        go_wp2_with (go_at_fn g; refine hl2.mono ?_; rintro e w' ⟨rfl, F'⟩; have c1' := F'.c1; obtain ⟨w3, hsw3, F3⟩ := F'.swap HS.out j (j - 1) (j : Int) ((j : Int) - 1) (by omega))
                        go_roundg (j - 1)
                        case measure => omega
                        case rel => exact ⟨j - 1, _, by congr 1; omega, by omega, Nat.le_refl _, F3, (show Hid _ from by rw [← HDn.out, shiftDown_go lt j dj hj1 hlv2]; exact rfl)⟩
                      | false =>
                        have hl2 := F.less HS.out j (j - 1) (j : Int) ((j : Int) - 1) (by omega) hlv2
                        go_wp2_with (go_at_fn g; refine hl2.mono ?_; rintro e w' ⟨rfl, F'⟩)
                        go_meet
                        case rel =>
                          have e : Sort.fixDown lt a kx X = dj := by unfold Sort.fixDown; rw [if_pos hka, ← HDn.out, shiftDown_stop lt j dj (Or.inr hlv2)]
                          rw [e]; exact F'
                    · have hj1z : ¬ (1 : Int) ≤ (j : Int) := by omega
                      go_wp2
                      go_meet
                      case rel =>
                        have e : Sort.fixDown lt a kx X = dj := by unfold Sort.fixDown; rw [if_pos hka, ← HDn.out, shiftDown_stop lt j dj (Or.inl (by omega))]
                        rw [e]; exact F
                · have hkaz : ¬ (2 : Int) ≤ (kx : Int) - (a : Int) := by omega
                  go_wp2
                  go_meet
                  case rel =>
                    have e : Sort.fixDown lt a kx X = X := by unfold Sort.fixDown; rw [if_neg hka]
                    rw [e]; exact F2
              case rest =>
                clear F2 F'
                obtain ⟨Y, hY⟩ : ∃ Y, Y = Sort.fixDown lt a kx X := ⟨_, rfl⟩
                rw [← hY] at hcut HO2
                clear hY hsw c1'
                by_cases hbk : b - kx ≥ 2
                · have hbkz : (2 : Int) ≤ (b : Int) - (kx : Int) := by omega
                  go_wp2
                  go_loopg [10] (b - (kx + 1)) (fun g4 vj wr4 => ∃ (ju : Nat) (du : Array α), vj = .int .i64 ju ∧ kx + 1 ≤ ju ∧ ju ≤ b ∧ b - ju ≤ g4 ∧ Fr Inv row g lb sf sb w wr4 du ∧ Hid (Sort.shiftUp lt b ju du = Sort.shiftUp lt b (kx + 1) Y))
                  case atStart => exact ⟨kx + 1, Y, by go_num, Nat.le_refl _, by omega, Nat.le_refl _, hcut, rfl⟩
                  case round =>
                    clear hcut
                    obtain ⟨ju, du, rfl, hkj, hjb, hg4, F, HU⟩ := hrel
                    have c0 := F.c0
                    have OUT : Hid ((¬ ju < b ∨ lt du[ju]! du[ju - 1]! = false) → Sort.partialIns lt a b (5 - (s + 1)) kx du = Sort.partialIns lt a b 5 (a + 1) d) := fun h => by
                      rw [HO2.out, show Sort.fixUp lt b kx Y = du from by unfold Sort.fixUp; rw [if_pos hbk, ← HU.out, shiftUp_stop lt b ju du h]]
                    by_cases hjb' : ju < b
                    · have hjz : (ju : Int) < (b : Int) := by omega
                      cases hlv3 : lt du[ju]! du[ju - 1]! with
                      | true =>
                        have hl3 := F.less HS.out ju (ju - 1) (ju : Int) ((ju : Int) - 1) (by omega) hlv3
                        go_wp2_with (go_at_fn g; refine hl3.mono ?_; rintro e w' ⟨rfl, F'⟩; have c1' := F'.c1; obtain ⟨w3, hsw3, F3⟩ := F'.swap HS.out ju (ju - 1) (ju : Int) ((ju : Int) - 1) (by omega))
                        go_roundg (b - (ju + 1))
                        case measure => omega
                        case rel => exact ⟨ju + 1, _, by go_num, by omega, by omega, Nat.le_refl _, F3, (show Hid _ from by rw [← HU.out, shiftUp_go lt b ju du hjb' hlv3]; exact rfl)⟩
                      | false =>
                        have hl3 := F.less HS.out ju (ju - 1) (ju : Int) ((ju : Int) - 1) (by omega) hlv3
                        go_wp2_with (go_at_fn g; refine hl3.mono ?_; rintro e w' ⟨rfl, F'⟩)
                        go_roundg (5 - (s + 1))
                        case measure => omega
                        case rel => exact ⟨kx, s + 1, du, rfl, by go_num, by omega, Nat.le_refl _, by omega, by omega, F', OUT.out (Or.inr hlv3)⟩
                    · have hjz : ¬ (ju : Int) < (b : Int) := by omega
                      go_wp2
                      go_roundg (5 - (s + 1))
                      case measure => omega
                      case rel => exact ⟨kx, s + 1, du, rfl, by go_num, by omega, Nat.le_refl _, by omega, by omega, F, OUT.out (Or.inl hjb')⟩
                · have hbkz : ¬ (2 : Int) ≤ (b : Int) - (kx : Int) := by omega
                  go_wp2
                  go_roundg (5 - (s + 1))
                  case measure => omega
                  case rel => exact ⟨kx, s + 1, Y, rfl, by go_num, by omega, Nat.le_refl _, by omega, by omega, hcut, (show Hid _ from by rw [HO2.out, show Sort.fixUp lt b kx Y = Y from by unfold Sort.fixUp; rw [if_neg hbk]]; exact rfl)⟩
        · obtain rfl : kx = b := by omega
          have hkz : ¬ (kx : Int) < (kx : Int) := by omega
          go_wp2
          have hv : Sort.partialInsertionSort lt d a kx = (dk, true) := by
            unfold Sort.partialInsertionSort
            rw [← HO.out, pi_true lt a kx s i dk hs (by rw [← HSc.out, scanSorted_stop lt dk kx kx (Or.inl (by omega))])]
          rw [hv]
          go_ret
          exact ⟨rfl, F.done⟩
    · obtain rfl : s = 5 := by omega
      go_wp2
      have hv : Sort.partialInsertionSort lt d a b = (dk, false) := by
        unfold Sort.partialInsertionSort
        rw [← HO.out, pi_end]
      rw [hv]
      go_ret
      exact ⟨rfl, F.done⟩

end Go.Proofs.Qxb6609005a
