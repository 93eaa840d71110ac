import Derived.Test.Qxb6609005aS1
import Derived.Sort.WalkB2
import Derived.Sort.WalkB3
namespace Go.Proofs.Qxb6609005a
open Go.RowKit
set_option linter.unusedSimpArgs false
set_option linter.unusedVariables false
set_option linter.unusedSectionVars false
variable {α : Type} [Inhabited α] {Inv : World → Array α → Prop} {lt : α → α → Bool} {g : Nat} {lb : Array Value} {sf : Nat} {sb : Array Value} {row n : Nat}

set_option maxHeartbeats 4000000 in
set_option maxRecDepth 100000 in
theorem siftDown_any (S : Sorter Inv lt g lb sf sb row n) (lo hi first : Nat) (d : Array α) (w : World) (hI : Inv w d) (hlo : lo ≤ hi) (hb : first + hi ≤ n) :
    Calls Try.prog 70 #[.agg #[.func (.func g) #[] lb, .func (.func sf) #[] sb], .int .i64 lo, .int .i64 hi, .int .i64 first] w fun e w' => e = .returned (.tuple #[]) ∧ Done Inv row w w' (Sort.siftDown lt hi first lo d) := by
  have hn := S.small
  have eg := S.enter
  have HS : Hid (Sorter Inv lt g lb sf sb row n) := S
  have F0 : Fr Inv row g lb sf sb w (w.alloc (.cells #[.func (.func g) #[] lb, .func (.func sf) #[] sb] 111)) d := Fr.start S hI
  clear hI S
  go_enter Try.func70, Try.ntmps70
  go_wp2
  generalize w.alloc (.cells #[.func (.func g) #[] lb, .func (.func sf) #[] sb] 111) = w1 at F0 ⊢
  go_loopg [8] (hi - lo) (fun kx s8 wr => ∃ (root : Nat) (dk : Array α), s8 = .int .i64 root ∧ root ≤ hi ∧ hi - root ≤ kx ∧ Fr Inv row g lb sf sb w wr dk ∧ Hid (Sort.siftDown lt hi first root dk = Sort.siftDown lt hi first lo d))
  case atStart => exact ⟨lo, d, rfl, hlo, Nat.le_refl _, F0, rfl⟩
  case round =>
    clear F0
    obtain ⟨root, dk, rfl, hr, hkx, F, HE⟩ := hrel
    have c0 := F.c0
    by_cases h0 : hi ≤ 2 * root + 1
    · have h0z : (hi : Int) ≤ 2 * (root : Int) + 1 := by omega
      go_wp2
      go_end0
      refine ⟨rfl, ?_⟩
      rw [← HE.out, Sort.sd_end lt dk h0]
      exact F.done
    · have h0z : ¬ ((hi : Int) ≤ 2 * (root : Int) + 1) := by omega
      by_cases h1 : 2 * root + 2 < hi
      · have h1z : 2 * (root : Int) + 1 + 1 < (hi : Int) := by omega
        cases hL : lt dk[first + (2 * root + 1)]! dk[first + (2 * root + 2)]! with
        | true =>
          have hl1 := F.less HS.out (first + (2 * root + 1)) (first + (2 * root + 2)) ((first : Int) + (2 * (root : Int) + 1)) ((first : Int) + (2 * (root : Int) + 1) + 1) (by omega) hL
          cases hG : lt dk[first + root]! dk[first + (2 * root + 2)]! with
          | true =>
            go_wp2_with (first
              | (go_at_fn g; refine hl1.mono ?_; rintro e w' ⟨rfl, F'⟩; have c0' := F'.c0; have hl2 := F'.less HS.out (first + root) (first + (2 * root + 2)) ((first : Int) + (root : Int)) ((first : Int) + (2 * (root : Int) + 1 + 1)) (by omega) hG)
              | (go_at_fn g; refine hl2.mono ?_; rintro e w2 ⟨rfl, F2⟩; have c1' := F2.c1; obtain ⟨w3, hsw, F3⟩ := F2.swap HS.out (first + root) (first + (2 * root + 2)) ((first : Int) + (root : Int)) ((first : Int) + (2 * (root : Int) + 1 + 1)) (by omega)))
            go_roundg (hi - (2 * root + 2))
            case measure => omega
            case rel => exact ⟨2 * root + 2, _, by go_num, by omega, Nat.le_refl _, F3, (show Hid _ from by rw [← HE.out, Sort.sd_right_go lt dk h1 hL hG]; exact rfl)⟩
          | false =>
            go_wp2_with (first
              | (go_at_fn g; refine hl1.mono ?_; rintro e w' ⟨rfl, F'⟩; have c0' := F'.c0; have hl2 := F'.less HS.out (first + root) (first + (2 * root + 2)) ((first : Int) + (root : Int)) ((first : Int) + (2 * (root : Int) + 1 + 1)) (by omega) hG)
              | (go_at_fn g; refine hl2.mono ?_; rintro e w2 ⟨rfl, F2⟩))
            (try simp only [Exit.inBlock, Exit.then]); refine bodyPost_ret (results_none rfl _ _ _) rfl ?_
            refine ⟨rfl, ?_⟩
            rw [← HE.out, Sort.sd_right_stop lt dk h1 hL hG]
            exact F2.done
        | false =>
          have hl1 := F.less HS.out (first + (2 * root + 1)) (first + (2 * root + 2)) ((first : Int) + (2 * (root : Int) + 1)) ((first : Int) + (2 * (root : Int) + 1) + 1) (by omega) hL
          cases hG : lt dk[first + root]! dk[first + (2 * root + 1)]! with
          | true =>
            go_wp2_with (first
              | (go_at_fn g; refine hl1.mono ?_; rintro e w' ⟨rfl, F'⟩; have c0' := F'.c0; have hl2 := F'.less HS.out (first + root) (first + (2 * root + 1)) ((first : Int) + (root : Int)) ((first : Int) + (2 * (root : Int) + 1)) (by omega) hG)
              | (go_at_fn g; refine hl2.mono ?_; rintro e w2 ⟨rfl, F2⟩; have c1' := F2.c1; obtain ⟨w3, hsw, F3⟩ := F2.swap HS.out (first + root) (first + (2 * root + 1)) ((first : Int) + (root : Int)) ((first : Int) + (2 * (root : Int) + 1)) (by omega)))
            go_roundg (hi - (2 * root + 1))
            case measure => omega
            case rel => exact ⟨2 * root + 1, _, by go_num, by omega, Nat.le_refl _, F3, (show Hid _ from by rw [← HE.out, Sort.sd_left_go lt dk (by omega) (fun _ => hL) hG]; exact rfl)⟩
          | false =>
            go_wp2_with (first
              | (go_at_fn g; refine hl1.mono ?_; rintro e w' ⟨rfl, F'⟩; have c0' := F'.c0; have hl2 := F'.less HS.out (first + root) (first + (2 * root + 1)) ((first : Int) + (root : Int)) ((first : Int) + (2 * (root : Int) + 1)) (by omega) hG)
              | (go_at_fn g; refine hl2.mono ?_; rintro e w2 ⟨rfl, F2⟩))
            (try simp only [Exit.inBlock, Exit.then]); refine bodyPost_ret (results_none rfl _ _ _) rfl ?_
            refine ⟨rfl, ?_⟩
            rw [← HE.out, Sort.sd_left_stop lt dk (by omega) (fun _ => hL) hG]
            exact F2.done
      · have h1z : ¬ (2 * (root : Int) + 1 + 1 < (hi : Int)) := by omega
        cases hG : lt dk[first + root]! dk[first + (2 * root + 1)]! with
        | true =>
          have hl2 := F.less HS.out (first + root) (first + (2 * root + 1)) ((first : Int) + (root : Int)) ((first : Int) + (2 * (root : Int) + 1)) (by omega) hG
          go_wp2_with (go_at_fn g; refine hl2.mono ?_; rintro e w2 ⟨rfl, F2⟩; have c1' := F2.c1; obtain ⟨w3, hsw, F3⟩ := F2.swap HS.out (first + root) (first + (2 * root + 1)) ((first : Int) + (root : Int)) ((first : Int) + (2 * (root : Int) + 1)) (by omega))
          go_roundg (hi - (2 * root + 1))
          case measure => omega
          case rel => exact ⟨2 * root + 1, _, by go_num, by omega, Nat.le_refl _, F3, (show Hid _ from by rw [← HE.out, Sort.sd_left_go lt dk (by omega) (fun h => absurd h h1) hG]; exact rfl)⟩
        | false =>
          have hl2 := F.less HS.out (first + root) (first + (2 * root + 1)) ((first : Int) + (root : Int)) ((first : Int) + (2 * (root : Int) + 1)) (by omega) hG
          go_wp2_with (go_at_fn g; refine hl2.mono ?_; rintro e w2 ⟨rfl, F2⟩)
          (try simp only [Exit.inBlock, Exit.then]); refine bodyPost_ret (results_none rfl _ _ _) rfl ?_
          refine ⟨rfl, ?_⟩
          rw [← HE.out, Sort.sd_left_stop lt dk (by omega) (fun h => absurd h h1) hG]
          exact F2.done

set_option maxHeartbeats 4000000 in
set_option maxRecDepth 100000 in
theorem heapSort_any (S : Sorter Inv lt g lb sf sb row n) (a b : Nat) (d : Array α) (w : World) (hI : Inv w d) (hab : a ≤ b) (hb : b ≤ n) :
    Calls Try.prog 63 #[.agg #[.func (.func g) #[] lb, .func (.func sf) #[] sb], .int .i64 a, .int .i64 b] w fun e w' => e = .returned (.tuple #[]) ∧ Done Inv row w w' (Sort.heapSort lt d a b) := by
  have hn := S.small
  have eg := S.enter
  have HS : Hid (Sorter Inv lt g lb sf sb row n) := S
  have F0 : Fr Inv row g lb sf sb w (w.alloc (.cells #[.func (.func g) #[] lb, .func (.func sf) #[] sb] 111)) d := Fr.start S hI
  clear hI S
  have ecast : ((b - a : Nat) : Int) = (b : Int) - (a : Int) := by omega
  go_enter Try.func63, Try.ntmps63
  go_wp2
  generalize w.alloc (.cells #[.func (.func g) #[] lb, .func (.func sf) #[] sb] 111) = w1 at F0 ⊢
  go_loopg [9] ((b - a - 1) / 2 + 1) (fun kx s9 wr => s9 = .int .i64 ((kx : Int) - 1) ∧ kx ≤ (b - a - 1) / 2 + 1 ∧ ∃ (dk : Array α), Fr Inv row g lb sf sb w wr dk ∧ Hid (Sort.heapBuild lt (b - a) a kx dk = Sort.heapBuild lt (b - a) a ((b - a - 1) / 2 + 1) d))
  case atStart => exact ⟨by rw [half_start hab], Nat.le_refl _, d, F0, rfl⟩
  case round =>
    clear F0
    obtain ⟨rfl, hkk, dk, F, HE⟩ := hrel
    cases gk with
    | zero =>
      have hB : Hid (dk = Sort.heapBuild lt (b - a) a ((b - a - 1) / 2 + 1) d) := HE.out
      clear HE hkk
      go_wp2
      go_loopg [10] (b - a) (fun kx s10 wr2 => s10 = .int .i64 ((kx : Int) - 1) ∧ kx ≤ b - a ∧ ∃ (dj : Array α), Fr Inv row g lb sf sb w wr2 dj ∧ Hid (Sort.heapPop lt a kx dj = Sort.heapPop lt a (b - a) dk))
      case atStart => exact ⟨by rw [ecast], Nat.le_refl _, dk, F, rfl⟩
      case round =>
        clear F
        obtain ⟨rfl, hkk, dj, F, HE2⟩ := hrel
        cases gk with
        | zero =>
          go_wp2
          go_end0
          have e : dj = Sort.heapSort lt d a b := by rw [Sort.heapSort, ← hB.out, ← HE2.out]; rfl
          rw [← e]
          exact ⟨rfl, F.done⟩
        | succ kx =>
          have c1 := F.c1
          obtain ⟨w2, hsw, F2⟩ := F.swap HS.out a (a + kx) (a : Int) ((a : Int) + (kx : Int)) (by omega)
          have hcall := siftDown_any HS.out 0 kx a (Sort.swp dj a (a + kx)) w2 F2.inv (Nat.zero_le _) (by omega)
          have c0' := F2.c0
          have c1' := F2.c1
          go_wp2_with (go_at_call 70; refine hcall.mono ?_; rintro e w3 ⟨rfl, D⟩)
          go_roundg kx
          case measure => omega
          case rel => exact ⟨by simp, by omega, _, F2.on D, HE2⟩
    | succ kx =>
      have hcall := siftDown_any HS.out kx (b - a) a dk wr F.inv (by omega) (by omega)
      rw [ecast] at hcall
      have c0' := F.c0
      have c1' := F.c1
      go_wp2_with (go_at_call 70; refine hcall.mono ?_; rintro e w3 ⟨rfl, D⟩)
      go_roundg kx
      case measure => omega
      case rel => exact ⟨by simp, by omega, _, F.on D, HE⟩

end Go.Proofs.Qxb6609005a
