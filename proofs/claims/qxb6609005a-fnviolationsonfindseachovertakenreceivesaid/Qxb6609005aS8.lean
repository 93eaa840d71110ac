import Derived.Test.Qxb6609005aS7
namespace Go.Proofs.Qxb6609005a
open Go.RowKit
set_option linter.unusedSimpArgs false
set_option linter.unusedVariables false
set_option linter.unusedSectionVars false
variable {α : Type} [Inhabited α] {Inv : World → Array α → Prop} {lt : α → α → Bool} {g : Nat} {lb : Array Value} {sf : Nat} {sb : Array Value} {row n : Nat}

/-- breakPatterns' state: the random word at block w.heap.size + 1 -/
structure Bp (Inv : World → Array α → Prop) (row g : Nat) (lb : Array Value) (sf : Nat) (sb : Array Value) (w wr : World) (dk : Array α) (R : Nat) : Prop where
  fr : Fr Inv row g lb sf sb w wr dk
  own : Own wr (w.heap.size + 1) 1 (fun _ => .int .u64 R)

theorem Bp.on {w wr w' : World} {dk d' : Array α} {R : Nat} (B : Bp Inv row g lb sf sb w wr dk R) (F : Fr Inv row g lb sf sb w w' d') (E : Else row wr w') : Bp Inv row g lb sf sb w w' d' R :=
  ⟨F, E.own B.own (by have := B.fr.rw; omega)⟩

/-- the random word is written -/
theorem Bp.store (S : Sorter Inv lt g lb sf sb row n) {w wr : World} {d dk : Array α} {R : Nat} (hI : Inv w d) (B : Bp Inv row g lb sf sb w wr dk R) (R' : Nat) :
    Bp Inv row g lb sf sb w ((wr.setCell ⟨w.heap.size + 1, 0, none⟩ (.int .u64 R')).drewN 3) dk R' := by
  obtain ⟨b, hb1, hb2⟩ := S.far
  have hbw := hb1 _ _ hI
  have F := B.fr
  have E := (Else.refl (w.heap.size + 1) wr).setCell (.int .u64 R') 0
  have hB : Below b wr ((wr.setCell ⟨w.heap.size + 1, 0, none⟩ (.int .u64 R')).drewN 3) := by
    have h := (Below.refl b wr).setCell (p := ⟨w.heap.size + 1, 0, none⟩) (by show b ≤ w.heap.size + 1; omega) (.int .u64 R')
    exact ⟨h.os, h.tape, h.output, h.size, h.block⟩
  have hrw := F.rw
  have hO : Own ((wr.setCell ⟨w.heap.size + 1, 0, none⟩ (.int .u64 R')).drewN 3) (w.heap.size + 1) 1 (fun _ => .int .u64 R') := by
    have h := (B.own.set 0 (by omega) (.int .u64 R')).drewN 3
    exact ⟨h.lt, fun i hi => by rw [h.cell i hi]; simp [show i = 0 by omega], h.thaw⟩
  refine ⟨⟨hb2 _ _ _ F.inv hB, ⟨Nat.le_trans F.els.size E.size, fun k hk' hne => ?_, ?_, ?_, ?_⟩, ?_, ?_, by simpa using F.lt, F.rw⟩, hO⟩
  · show (wr.setCell ⟨w.heap.size + 1, 0, none⟩ (.int .u64 R')).heap[k]? = _
    rw [E.block k (Nat.lt_of_lt_of_le hk' F.els.size) (by omega)]; exact F.els.block k hk' hne
  · rw [hB.os]; exact F.els.os
  · rw [hB.tape]; exact F.els.tape
  · rw [hB.output]; exact F.els.output
  · rw [World.cell?_drewN, E.cell F.lt (by omega)]; exact F.c0
  · rw [World.cell?_drewN, E.cell F.lt (by omega)]; exact F.c1

theorem Bp.swap (S : Sorter Inv lt g lb sf sb row n) {w wr : World} {dk : Array α} {R : Nat} (B : Bp Inv row g lb sf sb w wr dk R) (i j : Nat) (I J : Int) (h : I = i ∧ J = j ∧ i < n ∧ j < n) :
    ∃ w', (callFunc sf (#[.int .i64 I, .int .i64 J] ++ sb)).run Try.prog wr = .ok (.value (.tuple #[])) w' ∧ Bp Inv row g lb sf sb w w' (Sort.swp dk i j) R := by
  obtain ⟨rfl, rfl, hi, hj⟩ := h
  obtain ⟨w', h1, h2, h3⟩ := S.swap wr dk B.fr.inv i j hi hj
  exact ⟨w', h1, B.on (B.fr.step h2 h3) h3⟩

theorem Bp.start (S : Sorter Inv lt g lb sf sb row n) {w : World} {d : Array α} (hI : Inv w d) (L : Nat) : Bp Inv row g lb sf sb w ((w.alloc (.cells #[.func (.func g) #[] lb, .func (.func sf) #[] sb] 111)).alloc (.cells #[.int .u64 L] 125)) d L := by
  refine ⟨(Fr.start S hI).grow S (below_alloc _ _), ?_⟩
  have := Own.new (w.alloc (.cells #[.func (.func g) #[] lb, .func (.func sf) #[] sb] 111)) #[.int .u64 L] 125 (fun _ => .int .u64 (L : Int)) (fun i h => by simp at h; subst h; rfl)
  simpa using this

set_option maxHeartbeats 4000000 in
set_option maxRecDepth 1000000 in
theorem breakPatterns_go (S : Sorter Inv lt g lb sf sb row n) (h16 : n < 65536) (a L : Nat) (d : Array α) (w : World) (hI : Inv w d) (hb : a + L ≤ n) (h8 : 8 ≤ L) :
    Calls Try.prog 64 #[.agg #[.func (.func g) #[] lb, .func (.func sf) #[] sb], .int .i64 a, .int .i64 ((a + L : Nat) : Int)] w fun e w' => e = .returned (.tuple #[]) ∧ Done Inv row w w' (Sort.breakPatterns d a (a + L)) := by
  rw [breakPatterns_eq d a L h8]
  have hn := S.small
  have HS : Hid (Sorter Inv lt g lb sf sb row n) := S
  have HI : Hid (Inv w d) := hI
  have B0 : Bp Inv row g lb sf sb w _ d L := Bp.start S hI L
  obtain ⟨M, hM⟩ : ∃ M : Nat, M = 1 <<< Sort.bitsLen L := ⟨_, rfl⟩
  have hM1 : 1 ≤ M := by rw [hM, Nat.one_shiftLeft]; exact Nat.two_pow_pos _
  have hM2 : M ≤ 2 * L := by rw [hM, Nat.one_shiftLeft]; exact Sort.two_pow_bitsLen_le (by omega)
  have hNP : ∀ w, Calls Try.prog 71 #[.int .i64 (L : Int)] w fun e w' => e = .returned (.int .u64 (M : Int)) ∧ w' = w := by rw [hM]; exact fun w => nextPower_small L (by omega) w
  rw [← hM]
  clear hM S hI
  have hLz : ((a : Int) + (L : Int) - (a : Int)) = (L : Int) := by omega
  have h8z : (8 : Int) ≤ (L : Int) := by omega
  go_enter Try.func64, Try.ntmps64
  go_wp2_with (go_at_call 71; refine (hNP _).mono ?_; rintro e w' ⟨rfl, rfl⟩)
  go_loopg [9] 3 (fun g1 vi wr => ∃ (t : Nat) (r : UInt64) (dk : Array α), vi = .int .i64 ((a : Int) + (L : Int) / 4 * 2 - 1 + (t : Int)) ∧ t ≤ 3 ∧ 3 - t ≤ g1 ∧ Bp Inv row g lb sf sb w wr dk r.toNat ∧
      Hid (bpRest a L M (a + L / 4 * 2 - 1) (3 - t) t (r, dk) = bpRest a L M (a + L / 4 * 2 - 1) 3 0 (UInt64.ofNat L, d)))
  case atStart =>
    refine ⟨0, UInt64.ofNat L, d, by simp, by omega, by omega, ?_, rfl⟩
    rw [show (UInt64.ofNat L).toNat = L from by simp; omega]
    exact B0
  case round =>
    clear B0
    obtain ⟨t, r, dk, rfl, ht, hg1, B, HR⟩ := hrel
    by_cases ht3 : t < 3
    · have hle : (a : Int) + (L : Int) / 4 * 2 - 1 + (t : Int) ≤ (a : Int) + (L : Int) / 4 * 2 + 1 := by omega
      obtain ⟨R, hRr⟩ : ∃ R : Nat, R = r.toNat := ⟨_, rfl⟩
      have lR : R < 18446744073709551616 := by rw [hRr]; exact r.toNat_lt
      obtain ⟨R', hR'⟩ : ∃ R' : Nat, R' = Sort.xorNextN R := ⟨_, rfl⟩
      have lR' : R' < 18446744073709551616 := by rw [hR']; exact Sort.xorNextN_lt R lR
      obtain ⟨O, hO⟩ : ∃ O : Nat, O = R' &&& (M - 1) := ⟨_, rfl⟩
      have lO : O ≤ M - 1 := by rw [hO]; exact Nat.and_le_right
      have eAnd : bits .and .u64 (R' : Int) ((M : Int) - 1) = (O : Int) := by
        rw [show ((M : Int) - 1) = ((M - 1 : Nat) : Int) by omega, bits_and_u64_nat _ _ lR' (by omega), hO]
      rw [← hRr] at B
      have hNext : Calls Try.prog 72 #[.pointer (some ⟨w.heap.size + 1, 0, none⟩)] wr fun e w' => e = .returned (.int .u64 (R' : Int)) ∧ w' = (wr.setCell ⟨w.heap.size + 1, 0, none⟩ (.int .u64 (R' : Int))).drewN 3 := by
        rw [hR']; exact xorshift_next _ _ R lR wr (B.own.cell 0 (by omega)) (B.own.thaw 0)
      have HN : Hid (R' = (Sort.xorNext r).toNat ∧ O = (Sort.xorNext r).toNat &&& (M - 1)) := by
        have e : R' = (Sort.xorNext r).toNat := by rw [hR', hRr, Sort.xorNext_toNat]
        exact ⟨e, by rw [hO, e]⟩
      clear hRr hR' hO
      have B2 := B.store HS.out HI.out R'
      generalize (wr.setCell ⟨w.heap.size + 1, 0, none⟩ (.int .u64 (R' : Int))).drewN 3 = w2 at hNext B2
      have c1' := B2.fr.c1
      by_cases hLO : L ≤ O
      · have hLOz : (L : Int) ≤ (O : Int) := by omega
        obtain ⟨w3, hs, B3⟩ := B2.swap HS.out (a + L / 4 * 2 - 1 + t) (a + (O - L)) ((a : Int) + (L : Int) / 4 * 2 - 1 + (t : Int)) ((a : Int) + ((O : Int) - (L : Int))) (by omega)
        go_wp2_with (go_at_call 72; refine hNext.mono ?_; rintro e w' ⟨rfl, rfl⟩)
        go_roundg (3 - (t + 1))
        case measure => omega
        case rel => exact ⟨t + 1, Sort.xorNext r, Sort.swp dk (a + L / 4 * 2 - 1 + t) (a + (O - L)), by congr 1; push_cast; omega, by omega, Nat.le_refl _, by rw [← HN.out.1]; exact B3,
          (show Hid _ from by rw [← HR.out, bp_step a L M _ t r dk (O - L) ht3 (by rw [← HN.out.2, if_pos (by omega)])]; exact rfl)⟩
      · have hLOz : ¬ (L : Int) ≤ (O : Int) := by omega
        obtain ⟨w3, hs, B3⟩ := B2.swap HS.out (a + L / 4 * 2 - 1 + t) (a + O) ((a : Int) + (L : Int) / 4 * 2 - 1 + (t : Int)) ((a : Int) + (O : Int)) (by omega)
        go_wp2_with (go_at_call 72; refine hNext.mono ?_; rintro e w' ⟨rfl, rfl⟩)
        go_roundg (3 - (t + 1))
        case measure => omega
        case rel => exact ⟨t + 1, Sort.xorNext r, Sort.swp dk (a + L / 4 * 2 - 1 + t) (a + O), by congr 1; push_cast; omega, by omega, Nat.le_refl _, by rw [← HN.out.1]; exact B3,
          (show Hid _ from by rw [← HR.out, bp_step a L M _ t r dk O ht3 (by rw [← HN.out.2, if_neg (by omega)])]; exact rfl)⟩
    · obtain rfl : t = 3 := by omega
      have hle : ¬ ((a : Int) + (L : Int) / 4 * 2 - 1 + ((3 : Nat) : Int) ≤ (a : Int) + (L : Int) / 4 * 2 + 1) := by omega
      go_wp2
      go_end0
      refine ⟨rfl, ?_⟩
      rw [← HR.out]
      exact B.fr.done

theorem breakPatterns_any (S : Sorter Inv lt g lb sf sb row n) (h16 : n < 65536) (a b : Nat) (d : Array α) (w : World) (hI : Inv w d) (hab : a + 8 ≤ b) (hb : b ≤ n) :
    Calls Try.prog 64 #[.agg #[.func (.func g) #[] lb, .func (.func sf) #[] sb], .int .i64 a, .int .i64 b] w fun e w' => e = .returned (.tuple #[]) ∧ Done Inv row w w' (Sort.breakPatterns d a b) := by
  obtain ⟨L, rfl⟩ : ∃ L, b = a + L := ⟨b - a, by omega⟩
  exact breakPatterns_go S h16 a L d w hI hb (by omega)

end Go.Proofs.Qxb6609005a
