import Derived.Test.Qxb6609005aS0
import Derived.Sort.WalkA
import Derived.Shelf.Abstract
namespace Go.Proofs.Qxb6609005a
open Go.RowKit
set_option linter.unusedSimpArgs false
set_option linter.unusedVariables false
set_option linter.unusedSectionVars false
variable {α : Type} [Inhabited α] {Inv : World → Array α → Prop} {lt : α → α → Bool} {g : Nat} {lb : Array Value} {sf : Nat} {sb : Array Value} {row n : Nat}

set_option maxHeartbeats 1000000 in
theorem insertion_any (S : Sorter Inv lt g lb sf sb row n) (a b : Nat) (d : Array α) (w : World) (hI : Inv w d) (hab : a ≤ b) (hb : b ≤ n) :
    Calls Try.prog 62 #[.agg #[.func (.func g) #[] lb, .func (.func sf) #[] sb], .int .i64 a, .int .i64 b] w fun e w' => e = .returned (.tuple #[]) ∧ Done Inv row w w' (Sort.insertionSort lt d a b) := by
  have hn := S.small
  have eg := S.enter
  have HS : Hid (Sorter Inv lt g lb sf sb row n) := S
  have F0 : Fr Inv row g lb sf sb w (w.alloc (.cells #[.func (.func g) #[] lb, .func (.func sf) #[] sb] 111)) d := Fr.start S hI
  clear hI S
  go_enter Try.func62, Try.ntmps62
  go_wp2
  generalize w.alloc (.cells #[.func (.func g) #[] lb, .func (.func sf) #[] sb] 111) = w1 at F0 ⊢
  go_loopg [6] (b + 1) (fun kx s wr => ∃ (i : Nat) (dk : Array α), s = .int .i64 i ∧ a < i ∧ i ≤ b + 1 ∧ b + 1 - i ≤ kx ∧ Fr Inv row g lb sf sb w wr dk ∧ Hid (Sort.insOuter lt a b i dk = Sort.insOuter lt a b (a + 1) d))
  case atStart => exact ⟨a + 1, d, by go_num, by omega, by omega, by omega, F0, rfl⟩
  case round =>
    obtain ⟨i, dk, rfl, hai, hib, hkx, F, HO⟩ := hrel
    clear F0
    by_cases hlt : i < b
    · go_wp2
      go_loopg [7] i (fun ky s wr2 => ∃ (j : Nat) (dj : Array α), s = .int .i64 j ∧ a ≤ j ∧ j ≤ i ∧ j ≤ ky ∧ Fr Inv row g lb sf sb w wr2 dj ∧ Hid (Sort.insInner lt a j dj = Sort.insInner lt a i dk))
      case atStart => exact ⟨i, dk, rfl, by omega, Nat.le_refl _, Nat.le_refl _, F, rfl⟩
      case round =>
        clear F
        obtain ⟨j, dj, rfl, haj, hji, hjy, F, HI⟩ := hrel
        have c0 := F.c0
        have out : (j ≤ a ∨ lt dj[j]! dj[j - 1]! = false) → Hid (Sort.insOuter lt a b (i + 1) dj = Sort.insOuter lt a b (a + 1) d) := fun hs => by
          have e := HO.out
          rw [insOuter_go _ _ _ _ _ hlt, ← HI.out, insInner_stop _ _ _ _ hs] at e
          exact e
        have OUT : Hid _ := out
        clear out
        by_cases hja : a < j
        · cases hlv : lt dj[j]! dj[j - 1]! with
          | true =>
            have hl := F.less HS.out j (j - 1) (j : Int) ((j : Int) - 1) (by omega) hlv
            go_wp2_with (go_at_fn g; refine hl.mono ?_; rintro e w' ⟨rfl, F'⟩; have c1' := F'.c1; obtain ⟨w2, hsw, F2⟩ := F'.swap HS.out j (j - 1) (j : Int) ((j : Int) - 1) (by omega))
            go_roundg (j - 1)
            case measure => omega
            case rel => exact ⟨j - 1, _, by congr 1; omega, by omega, by omega, Nat.le_refl _, F2, by rw [← HI.out, insInner_go lt a j dj hja hlv]; exact rfl⟩
          | false =>
            have hl := F.less HS.out j (j - 1) (j : Int) ((j : Int) - 1) (by omega) hlv
            go_wp2_with (go_at_fn g; refine hl.mono ?_; rintro e w' ⟨rfl, F'⟩)
            go_roundg (b + 1 - (i + 1))
            case measure => omega
            case rel => exact ⟨i + 1, dj, by go_num, by omega, by omega, Nat.le_refl _, F', OUT.out (Or.inr hlv)⟩
        · go_wp2
          go_roundg (b + 1 - (i + 1))
          case measure => omega
          case rel => exact ⟨i + 1, dj, by go_num, by omega, by omega, Nat.le_refl _, F, OUT.out (Or.inl (by omega))⟩
    · go_wp2
      go_end0
      refine ⟨rfl, ?_⟩
      unfold Sort.insertionSort
      rw [← HO.out, insOuter_stop _ _ _ _ _ hlt]
      exact F.done

end Go.Proofs.Qxb6609005a
