import Derived.Test.Qxb6609005aS6
import Derived.Shelf.SlSortFunc.Xorshift
import Derived.Lib.BitFns
import Derived.Sort.Walk7
import Derived.Sort.WalkB12
namespace Go.Proofs.Qxb6609005a
open Go.RowKit
set_option linter.unusedSimpArgs false
set_option linter.unusedVariables false
set_option linter.unusedSectionVars false
variable {α : Type} [Inhabited α] {Inv : World → Array α → Prop} {lt : α → α → Bool} {g : Nat} {lb : Array Value} {sf : Nat} {sb : Array Value} {row n : Nat}

set_option maxHeartbeats 4000000 in
set_option maxRecDepth 100000 in
theorem len64_small (x : Int) (w : World) (h0 : 0 ≤ x) (h1 : x < 65536) :
    Calls Try.prog 61 #[.int .u64 x] w fun e w' => e = .returned (.int .i64 (Lib.bitLen x.toNat)) ∧ w' = w := by
  have hA : ¬ (4294967296 : Int) ≤ x := by omega
  have hB : ¬ (65536 : Int) ≤ x := by omega
  by_cases h : (256 : Int) ≤ x
  · have h2 : x / 256 ≤ 255 := by omega
    have h3 : 0 ≤ x / 256 := by omega
    have l8 := Lib.len8_of (x / 256) h3 h2
    have l := Lib.bitLen_le8' (x / 256) h3 h2
    have e : (x / 256).toNat = x.toNat / 256 := by omega
    have s := Lib.bitLen_shift8 x.toNat (by omega) (by omega)
    rw [e] at l l8
    generalize Lib.bitLen (x.toNat / 256) = L at *
    go_enter Try.func61, Try.ntmps61
    go_wp2
    go_ret
    exact ⟨rfl, rfl⟩
  · have h2 : x ≤ 255 := by omega
    have l8 := Lib.len8_of x h0 h2
    have l := Lib.bitLen_le8' x h0 h2
    generalize Lib.bitLen x.toNat = L at *
    go_enter Try.func61, Try.ntmps61
    go_wp2
    go_ret
    exact ⟨by first | rfl | go_num, rfl⟩

theorem len_small (x : Nat) (w : World) (h1 : x < 65536) : Calls Try.prog 48 #[.int .u64 x] w fun e w' => e = .returned (.int .i64 (Lib.bitLen x)) ∧ w' = w := by
  have h := fun w => len64_small (x : Int) w (by omega) (by omega)
  simp only [Int.toNat_natCast] at h
  go_enter Try.func48, Try.ntmps48
  go_wp2_with (go_at_call 61; refine (h _).mono ?_; rintro e w' ⟨rfl, rfl⟩)
  go_ret
  exact ⟨rfl, rfl⟩

set_option maxHeartbeats 1000000 in
theorem nextPower_small (x : Nat) (hx : x < 65536) (w : World) : Calls Try.prog 71 #[.int .i64 x] w fun e w' => e = .returned (.int .u64 ((1 <<< Sort.bitsLen x : Nat) : Int)) ∧ w' = w := by
  have hLen : ∀ w, Calls Try.prog 48 #[.int .u64 (x : Int)] w fun e w' => e = .returned (.int .i64 (Sort.bitsLen x : Nat)) ∧ w' = w := fun w => by
    have h := len_small x w hx
    rwa [bitLen_eq _ (by omega)] at h
  have hk : Sort.bitsLen x ≤ 62 := (Sort.bitsLen_le_iff x 62).2 (by omega)
  have hp := wrap_two_pow (Sort.bitsLen x) hk
  have wr : IntKind.u64.wrap (x : Int) = x := by simp [IntKind.wrap, IntKind.bits, IntKind.signed]; omega
  go_enter Try.func71, Try.ntmps71
  go_wp2_with (go_at_call 48; refine (hLen _).mono ?_; rintro e w' ⟨rfl, rfl⟩)
  go_ret
  exact ⟨rfl, rfl⟩

set_option maxHeartbeats 2000000 in
set_option maxRecDepth 1000000 in
theorem xorshift_next (rb ro X : Nat) (hX : X < 18446744073709551616) (w : World) (hc : w.cell? ⟨rb, ro, none⟩ = some (.int .u64 X)) (hf : w.frozen? ⟨rb, ro, none⟩ = false) :
    Calls Try.prog 72 #[.pointer (some ⟨rb, ro, none⟩)] w fun e w' => e = .returned (.int .u64 (Sort.xorNextN X : Nat)) ∧ w' = (w.setCell ⟨rb, ro, none⟩ (.int .u64 (Sort.xorNextN X : Nat))).drewN 3 := by
  obtain ⟨A, hA⟩ : ∃ A : Nat, A = X ^^^ (X * 8192 % 18446744073709551616) := ⟨_, rfl⟩
  obtain ⟨B, hB⟩ : ∃ B : Nat, B = A ^^^ (A / 128) := ⟨_, rfl⟩
  obtain ⟨C, hC⟩ : ∃ C : Nat, C = B ^^^ (B * 131072 % 18446744073709551616) := ⟨_, rfl⟩
  have lA : A < 18446744073709551616 := by rw [hA]; exact Nat.xor_lt_two_pow (n := 64) (by omega) (by omega)
  have lB : B < 18446744073709551616 := by rw [hB]; exact Nat.xor_lt_two_pow (n := 64) (by omega) (by omega)
  have e1 : bits .xor .u64 (X : Int) (IntKind.u64.wrap ((X : Int) * 8192)) = (A : Int) := by
    rw [IntKind.wrap_u64, show ((X : Int) * 8192 % 18446744073709551616) = ((X * 8192 % 18446744073709551616 : Nat) : Int) by omega, bits_xor_u64_nat _ _ hX (by omega), hA]
  have e2 : bits .xor .u64 (A : Int) ((A : Int) / 128) = (B : Int) := by
    rw [show ((A : Int) / 128) = ((A / 128 : Nat) : Int) by omega, bits_xor_u64_nat _ _ lA (by omega), hB]
  have e3 : bits .xor .u64 (B : Int) (IntKind.u64.wrap ((B : Int) * 131072)) = (C : Int) := by
    rw [IntKind.wrap_u64, show ((B : Int) * 131072 % 18446744073709551616) = ((B * 131072 % 18446744073709551616 : Nat) : Int) by omega, bits_xor_u64_nat _ _ lB (by omega), hC]
  have hv : Sort.xorNextN X = C := by unfold Sort.xorNextN; simp only []; rw [← hA, ← hB, ← hC]
  rw [hv]
  clear hA hB hC hv
  have hss : ∀ v v', (w.setCell ⟨rb, ro, none⟩ v).setCell ⟨rb, ro, none⟩ v' = w.setCell ⟨rb, ro, none⟩ v' := setCell_setCell w rb ro
  go_enter Try.func72, Try.ntmps72
  go_wp2
  go_region
  all_goals go_wp2
  all_goals go_region
  all_goals go_wp2
  all_goals go_region
  all_goals go_wp2
  go_ret
  exact ⟨rfl, rfl⟩

set_option maxHeartbeats 1000000 in
theorem reverseRange_any (S : Sorter Inv lt g lb sf sb row n) (a b : Nat) (d : Array α) (w : World) (hI : Inv w d) (hab : a < b) (hb : b ≤ n) :
    Calls Try.prog 66 #[.agg #[.func (.func g) #[] lb, .func (.func sf) #[] sb], .int .i64 a, .int .i64 b] w fun e w' => e = .returned (.tuple #[]) ∧ Done Inv row w w' (Sort.reverseRange d a b) := by
  have hn := S.small
  have eg := S.enter
  have HS : Hid (Sorter Inv lt g lb sf sb row n) := S
  have F0 : Fr Inv row g lb sf sb w (w.alloc (.cells #[.func (.func g) #[] lb, .func (.func sf) #[] sb] 111)) d := Fr.start S hI
  clear hI S
  go_enter Try.func66, Try.ntmps66
  go_wp2
  generalize w.alloc (.cells #[.func (.func g) #[] lb, .func (.func sf) #[] sb] 111) = w1 at F0 ⊢
  go_loopg [6, 7] b (fun kx vi vj wr => ∃ (i j : Nat) (dk : Array α), vi = .int .i64 i ∧ vj = .int .i64 j ∧ i ≤ j + 1 ∧ j < b ∧ j + 1 - i ≤ kx ∧ Fr Inv row g lb sf sb w wr dk ∧ Hid (Sort.reverseLoop i j dk = Sort.reverseLoop a (b - 1) d))
  case atStart => exact ⟨a, b - 1, d, rfl, by go_num, by omega, by omega, by omega, F0, rfl⟩
  case round =>
    clear F0
    obtain ⟨i, j, dk, rfl, rfl, hij, hjb, hkx, F, HE⟩ := hrel
    by_cases hlt : i < j
    · have c1 := F.c1
      obtain ⟨w2, hsw, F2⟩ := F.swap HS.out i j (i : Int) (j : Int) (by omega)
      go_wp2
      go_roundg (j - 1 + 1 - (i + 1))
      case measure => omega
      case rel => exact ⟨i + 1, j - 1, _, by go_num, by go_num, by omega, by omega, Nat.le_refl _, F2, (show Hid _ from by rw [← HE.out, Sort.reverseLoop.eq_def i j, if_pos hlt]; exact rfl)⟩
    · go_wp2
      go_end0
      refine ⟨rfl, ?_⟩
      unfold Sort.reverseRange
      rw [← HE.out, Sort.reverseLoop.eq_def i j, if_neg hlt]
      exact F.done

end Go.Proofs.Qxb6609005a
