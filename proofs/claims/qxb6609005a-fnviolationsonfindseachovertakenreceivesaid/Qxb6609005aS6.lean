import Derived.Test.Qxb6609005aS0
import Derived.Sort.LotD4
import Derived.Sort.Walk11
import Derived.Shelf.GgSortFunc.LotD
import Derived.Shelf.Abstract
namespace Go.Proofs.Qxb6609005a
open Go.RowKit
set_option linter.unusedSimpArgs false
set_option linter.unusedVariables false
set_option linter.unusedSectionVars false
variable {α : Type} [Inhabited α] {Inv : World → Array α → Prop} {lt : α → α → Bool} {g : Nat} {lb : Array Value} {sf : Nat} {sb : Array Value} {row n : Nat}

/-- a counter of the call's own at block q, laid over wb -/
structure Ct (wb w : World) (q s : Nat) : Prop where
  bel : Below wb.heap.size wb w
  hi : wb.heap.size ≤ q
  own : Own w q 1 (fun _ => .int .i64 s)

section
variable {wb w w' : World} {q s : Nat}
theorem Ct.grow (C : Ct wb w q s) (h : Below w.heap.size w w') : Ct wb w' q s := ⟨C.bel.trans (h.mono C.bel.size), C.hi, C.own.below h C.own.lt⟩
theorem Ct.set (C : Ct wb w q s) (t : Nat) : Ct wb (w.setCell ⟨q, 0, none⟩ (.int .i64 t)) q t := by
  refine ⟨C.bel.setCell C.hi _, C.hi, ?_⟩
  have h := C.own.set 0 (by omega) (.int .i64 t)
  exact ⟨h.lt, fun i hi => by rw [h.cell i hi]; simp [show i = 0 by omega], h.thaw⟩
theorem Else.setCell (h : Else q wb w) (v : Value) (i : Nat) : Else q wb (w.setCell ⟨q, i, none⟩ v) :=
  ⟨Nat.le_trans h.size (by simp), fun k hk hne => by
    rw [← h.block k hk hne]
    exact Below.heap_setCell w ⟨q, i, none⟩ v k hne, by rw [← h.os]; rfl, by rw [← h.tape]; rfl, by rw [← h.output]; rfl⟩
theorem Ct.alloc (C : Ct wb w q s) (o : Obj) : Ct wb (w.alloc o) q s := C.grow ((Below.refl _ w).alloc (Nat.le_refl _) _)
theorem below_alloc (w : World) (o : Obj) : Below w.heap.size w (w.alloc o) := (Below.refl _ w).alloc (Nat.le_refl _) _
end

set_option maxHeartbeats 1000000 in
set_option maxRecDepth 100000 in
theorem order2_any (S : Sorter Inv lt g lb sf sb row n) (wb w : World) (d : Array α) (a b q s : Nat) (hI : Inv wb d) (C : Ct wb w q s) (ha : a < n) (hb : b < n) (hs : s < 4611686018427387904) :
    Calls Try.prog 75 #[.agg #[.func (.func g) #[] lb, .func (.func sf) #[] sb], .int .i64 a, .int .i64 b, .pointer (some ⟨q, 0, none⟩)] w fun e w' => e = .returned (.tuple #[.int .i64 (Sort.order2 lt d a b s).1, .int .i64 (Sort.order2 lt d a b s).2.1]) ∧ Ct wb w' q (Sort.order2 lt d a b s).2.2 ∧ Else q w w' := by
  have eg := S.enter
  have C0 := C.alloc (.cells #[.func (.func g) #[] lb, .func (.func sf) #[] sb] 111)
  have E0 : Else q w (w.alloc (.cells #[.func (.func g) #[] lb, .func (.func sf) #[] sb] 111)) := Else.of_below (below_alloc w _)
  have hl := S.less _ d (S.grow _ _ _ hI C0.bel) b a hb ha
  clear C hI S
  go_enter Try.func75, Try.ntmps75
  cases hlv : lt d[b]! d[a]! with
  | true =>
    rw [hlv] at hl
    have e2 : Sort.order2 lt d a b s = (b, a, s + 1) := by simp [Sort.order2, hlv]
    go_wp2_with (go_at_fn g; refine hl.mono ?_; rintro e w' ⟨rfl, hB⟩; have C1 := C0.grow hB; have cq := C1.own.cell 0 (by omega); have fq := C1.own.thaw 0)
    go_ret2
    rw [e2]
    exact ⟨rfl, C1.set (s + 1), (E0.trans (Else.of_below hB)).setCell _ _⟩
  | false =>
    rw [hlv] at hl
    have e2 : Sort.order2 lt d a b s = (a, b, s) := by simp [Sort.order2, hlv]
    go_wp2_with (go_at_fn g; refine hl.mono ?_; rintro e w' ⟨rfl, hB⟩)
    go_ret2
    rw [e2]
    exact ⟨rfl, C0.grow hB, E0.trans (Else.of_below hB)⟩

/-- a frame's own pair at block w.heap.size, kept -/
structure Bx (g : Nat) (lb : Array Value) (sf : Nat) (sb : Array Value) (w wr : World) : Prop where
  c0 : wr.cell? ⟨w.heap.size, 0, none⟩ = some (.func (.func g) #[] lb)
  c1 : wr.cell? ⟨w.heap.size, 1, none⟩ = some (.func (.func sf) #[] sb)
  lt : w.heap.size < wr.heap.size
theorem Bx.start (w : World) : Bx g lb sf sb w (w.alloc (.cells #[.func (.func g) #[] lb, .func (.func sf) #[] sb] 111)) := ⟨by simp, by simp, by simp⟩
theorem Bx.on {w wr w' : World} {q : Nat} (B : Bx g lb sf sb w wr) (h : Else q wr w') (hq : w.heap.size ≠ q) : Bx g lb sf sb w w' :=
  ⟨by rw [h.cell B.lt hq]; exact B.c0, by rw [h.cell B.lt hq]; exact B.c1, Nat.lt_of_lt_of_le B.lt h.size⟩

set_option maxHeartbeats 1000000 in
set_option maxRecDepth 100000 in
theorem median_any (S : Sorter Inv lt g lb sf sb row n) (wb w : World) (d : Array α) (a b c q s : Nat) (hI : Inv wb d) (C : Ct wb w q s) (ha : a < n) (hb : b < n) (hc : c < n) (hs : s + 3 < 4611686018427387904) :
    Calls Try.prog 74 #[.agg #[.func (.func g) #[] lb, .func (.func sf) #[] sb], .int .i64 a, .int .i64 b, .int .i64 c, .pointer (some ⟨q, 0, none⟩)] w fun e w' => e = .returned (.int .i64 (Sort.median lt d a b c s).1) ∧ Ct wb w' q (Sort.median lt d a b c s).2 ∧ Else q w w' := by
  obtain ⟨x1, y1, t1, q1⟩ : ∃ x y t, Sort.order2 lt d a b s = (x, y, t) := ⟨_, _, _, rfl⟩
  obtain ⟨x2, y2, t2, q2⟩ : ∃ x y t, Sort.order2 lt d y1 c t1 = (x, y, t) := ⟨_, _, _, rfl⟩
  obtain ⟨x3, y3, t3, q3⟩ : ∃ x y t, Sort.order2 lt d x1 x2 t2 = (x, y, t) := ⟨_, _, _, rfl⟩
  have l1 := order2_lt' lt d s ha hb
  have s1 := order2_swaps' lt d a b s
  rw [q1] at l1 s1
  have l2 := order2_lt' lt d t1 l1.2 hc
  have s2 := order2_swaps' lt d y1 c t1
  rw [q2] at l2 s2
  simp only [] at l1 s1 l2 s2
  have hm : Sort.median lt d a b c s = (y3, t3) := by simp only [Sort.median, q1, q2, q3]
  rw [hm]
  have hqw : w.heap.size ≠ q := by have := C.own.lt; omega
  have B0 : Bx g lb sf sb w _ := Bx.start w
  have E0 : Else q w (w.alloc (.cells #[.func (.func g) #[] lb, .func (.func sf) #[] sb] 111)) := Else.of_below (below_alloc w _)
  have h1 := order2_any S wb _ d a b q s hI (C.alloc (.cells #[.func (.func g) #[] lb, .func (.func sf) #[] sb] 111)) ha hb (by omega)
  have h2 : Hid (∀ w1, Ct wb w1 q t1 → _) := fun w1 C1 => order2_any S wb w1 d y1 c q t1 hI C1 l1.2 hc (by omega)
  have h3 : Hid (∀ w2, Ct wb w2 q t2 → _) := fun w2 C2 => order2_any S wb w2 d x1 x2 q t2 hI C2 l1.1 l2.1 (by omega)
  rw [q1] at h1; rw [q2] at h2; rw [q3] at h3
  clear S hI C q1 q2 q3 hm
  go_enter Try.func74, Try.ntmps74
  go_wp2_with fail
  go_at_call 75
  refine h1.mono ?_
  rintro e w1 ⟨rfl, C1, E1⟩
  have B1 := B0.on E1 hqw
  have b0 := B1.c0
  have b1 := B1.c1
  have k2 := h2.out w1 C1
  go_wp2_with fail
  go_at_call 75
  refine k2.mono ?_
  rintro e w2 ⟨rfl, C2, E2⟩
  have B2 := B1.on E2 hqw
  have b0' := B2.c0
  have b1' := B2.c1
  have k3 := h3.out w2 C2
  go_wp2_with fail
  go_at_call 75
  refine k3.mono ?_
  rintro e w3 ⟨rfl, C3, E3⟩
  go_wp2
  go_ret
  exact ⟨rfl, C3, E0.trans (E1.trans (E2.trans E3))⟩

set_option maxHeartbeats 1000000 in
set_option maxRecDepth 100000 in
theorem medianAdjacent_any (S : Sorter Inv lt g lb sf sb row n) (wb w : World) (d : Array α) (a q s : Nat) (hI : Inv wb d) (C : Ct wb w q s) (ha1 : 1 ≤ a) (ha2 : a + 1 < n) (hs : s + 3 < 4611686018427387904) :
    Calls Try.prog 73 #[.agg #[.func (.func g) #[] lb, .func (.func sf) #[] sb], .int .i64 a, .pointer (some ⟨q, 0, none⟩)] w fun e w' => e = .returned (.int .i64 (Sort.medianAdjacent lt d a s).1) ∧ Ct wb w' q (Sort.medianAdjacent lt d a s).2 ∧ Else q w w' := by
  have hn := S.small
  have E0 : Else q w (w.alloc (.cells #[.func (.func g) #[] lb, .func (.func sf) #[] sb] 111)) := Else.of_below (below_alloc w _)
  have hm := median_any S wb _ d (a - 1) a (a + 1) q s hI (C.alloc (.cells #[.func (.func g) #[] lb, .func (.func sf) #[] sb] 111)) (by omega) (by omega) ha2 hs
  rw [show ((a - 1 : Nat) : Int) = (a : Int) - 1 by omega, show ((a + 1 : Nat) : Int) = (a : Int) + 1 by omega] at hm
  clear S hI C
  go_enter Try.func73, Try.ntmps73
  go_wp2_with fail
  go_at_call 74
  refine hm.mono ?_
  rintro e w1 ⟨rfl, C1, E1⟩
  go_wp2
  go_ret
  exact ⟨rfl, C1, E0.trans E1⟩

/-- choosePivot's state: the counter at block w.heap.size + 1 -/
structure Pv (g : Nat) (lb : Array Value) (sf : Nat) (sb : Array Value) (w wr : World) (s : Nat) : Prop where
  ct : Ct w wr (w.heap.size + 1) s
  bx : Bx g lb sf sb w wr
theorem Pv.on {w wr w' : World} {s t : Nat} (P : Pv g lb sf sb w wr s) (C : Ct w w' (w.heap.size + 1) t) (E : Else (w.heap.size + 1) wr w') : Pv g lb sf sb w w' t := ⟨C, P.bx.on E (by omega)⟩
theorem Pv.start (w : World) : Pv g lb sf sb w ((w.alloc (.cells #[.func (.func g) #[] lb, .func (.func sf) #[] sb] 111)).alloc (.cells #[.int .i64 0] 3)) 0 := by
  have B := Bx.start (g := g) (lb := lb) (sf := sf) (sb := sb) w
  refine ⟨⟨(below_alloc w _).trans ((below_alloc _ _).mono (by simp)), by omega, ?_⟩, B.on (q := w.heap.size + 1) (Else.of_below (below_alloc _ _)) (by omega)⟩
  have := Own.new (w.alloc (.cells #[.func (.func g) #[] lb, .func (.func sf) #[] sb] 111)) #[.int .i64 0] 3 (fun _ => .int .i64 ((0 : Nat) : Int)) (fun i h => by simp at h; subst h; rfl)
  simpa using this
theorem Pv.done (S : Sorter Inv lt g lb sf sb row n) {w wr : World} {s : Nat} {d : Array α} (P : Pv g lb sf sb w wr s) (hI : Inv w d) : Done Inv row w wr d := ⟨S.grow _ _ _ hI P.ct.bel, Else.of_below P.ct.bel⟩

theorem hintCode_hintOf (s : Nat) : Sort.hintCode (Sort.hintOf s) = if s = 0 then 1 else if s = 12 then 2 else 0 := by
  unfold Sort.hintOf
  by_cases h0 : s = 0
  · simp [h0, Sort.hintCode]
  · by_cases h1 : s = 12
    · simp [h1, Sort.hintCode]
    · simp [h0, h1, Sort.hintCode]

set_option maxHeartbeats 4000000 in
set_option maxRecDepth 100000 in
theorem choosePivot_any (S : Sorter Inv lt g lb sf sb row n) (a b : Nat) (d : Array α) (w : World) (hI : Inv w d) (hab : a < b) (hb : b ≤ n) :
    Calls Try.prog 65 #[.agg #[.func (.func g) #[] lb, .func (.func sf) #[] sb], .int .i64 a, .int .i64 b] w fun e w' => e = .returned (.tuple #[.int .i64 (Sort.choosePivot lt d a b).1, .int .i64 (Sort.hintCode (Sort.choosePivot lt d a b).2)]) ∧ Done Inv row w w' d := by
  have hn := S.small
  rw [Sort.choosePivot_eq]
  have P0 : Pv g lb sf sb w _ 0 := Pv.start w
  have HS : Hid (Sorter Inv lt g lb sf sb row n) := S
  have HI : Hid (Inv w d) := hI
  obtain ⟨I, hi⟩ : ∃ I : Nat, I = a + (b - a) / 4 * 1 := ⟨_, rfl⟩
  obtain ⟨J, hj⟩ : ∃ J : Nat, J = a + (b - a) / 4 * 2 := ⟨_, rfl⟩
  obtain ⟨K, hk⟩ : ∃ K : Nat, K = a + (b - a) / 4 * 3 := ⟨_, rfl⟩
  have eI : ((a : Int) + ((b : Int) - (a : Int)) / 4) = (I : Int) := by omega
  have eJ : ((a : Int) + ((b : Int) - (a : Int)) / 4 * 2) = (J : Int) := by omega
  have eK : ((a : Int) + ((b : Int) - (a : Int)) / 4 * 3) = (K : Int) := by omega
  by_cases h8 : b - a ≥ 8
  · by_cases h50 : b - a ≥ 50
    · obtain ⟨i1, s1, h1⟩ : ∃ i1 s1, Sort.medianAdjacent lt d I 0 = (i1, s1) := ⟨_, _, rfl⟩
      obtain ⟨j1, s2, h2⟩ : ∃ j1 s2, Sort.medianAdjacent lt d J s1 = (j1, s2) := ⟨_, _, rfl⟩
      obtain ⟨k1, s3, h3⟩ : ∃ k1 s3, Sort.medianAdjacent lt d K s2 = (k1, s3) := ⟨_, _, rfl⟩
      obtain ⟨p, s, h4⟩ : ∃ p s, Sort.median lt d i1 j1 k1 s3 = (p, s) := ⟨_, _, rfl⟩
      have hraw : Sort.rawPivot lt d a b = (p, s) := by simp only [Sort.rawPivot, if_pos h8, if_pos h50, ← hi, ← hj, ← hk, h1, h2, h3, h4]
      have m1 := Sort.medianAdjacent_mem lt d I 0; rw [h1] at m1
      have m2 := Sort.medianAdjacent_mem lt d J s1; rw [h2] at m2
      have m3 := Sort.medianAdjacent_mem lt d K s2; rw [h3] at m3
      have n1 := Sort.medianAdjacent_count lt d I 0; rw [h1] at n1
      have n2 := Sort.medianAdjacent_count lt d J s1; rw [h2] at n2
      have n3 := Sort.medianAdjacent_count lt d K s2; rw [h3] at n3
      simp only [] at m1 m2 m3 n1 n2 n3
      rw [hraw, hintCode_hintOf]
      have c1 := medianAdjacent_any S w _ d I (w.heap.size + 1) 0 hI P0.ct (by omega) (by omega) (by omega)
      have c2 : Hid (∀ wx, Ct w wx (w.heap.size + 1) s1 → _) := fun wx C => medianAdjacent_any HS.out w wx d J (w.heap.size + 1) s1 HI.out C (by omega) (by omega) (by omega)
      have c3 : Hid (∀ wx, Ct w wx (w.heap.size + 1) s2 → _) := fun wx C => medianAdjacent_any HS.out w wx d K (w.heap.size + 1) s2 HI.out C (by omega) (by omega) (by omega)
      have c4 : Hid (∀ wx, Ct w wx (w.heap.size + 1) s3 → _) := fun wx C => median_any HS.out w wx d i1 j1 k1 (w.heap.size + 1) s3 HI.out C (by omega) (by omega) (by omega) (by omega)
      rw [h1] at c1; rw [h2] at c2; rw [h3] at c3; rw [h4] at c4
      clear S hI
      have h8z : (8 : Int) ≤ (b : Int) - (a : Int) := by omega
      have h50z : (50 : Int) ≤ (b : Int) - (a : Int) := by omega
      clear h1 h2 h3 h4 hi hj hk m1 m2 m3 hraw
      go_enter Try.func65, Try.ntmps65
      go_wp2_with fail
      go_at_call 73
      refine c1.mono ?_
      rintro e w1 ⟨rfl, C1, E1⟩
      have P1 := P0.on C1 E1
      have b0 := P1.bx.c0
      have b1 := P1.bx.c1
      have d2 := c2.out w1 C1
      go_wp2_with fail
      go_at_call 73
      refine d2.mono ?_
      rintro e w2 ⟨rfl, C2, E2⟩
      have P2 := P1.on C2 E2
      have b0 := P2.bx.c0
      have b1 := P2.bx.c1
      have d3 := c3.out w2 C2
      go_wp2_with fail
      go_at_call 73
      refine d3.mono ?_
      rintro e w3 ⟨rfl, C3, E3⟩
      have P3 := P2.on C3 E3
      have b0 := P3.bx.c0
      have b1 := P3.bx.c1
      have d4 := c4.out w3 C3
      have fin : ∀ w4, Pv g lb sf sb w w4 s → Done Inv row w w4 d := fun w4 P4 => P4.done HS.out HI.out
      by_cases e0 : s = 0
      · subst e0
        go_wp2_with fail
        go_at_call 74
        refine d4.mono ?_
        rintro e w4 ⟨rfl, C4, E4⟩
        have P4 := P3.on C4 E4
        have cq := P4.ct.own.cell 0 (by omega)
        go_wp2
        go_ret2
        exact ⟨by simp, fin _ P4⟩
      · by_cases e1 : s = 12
        · subst e1
          go_wp2_with fail
          go_at_call 74
          refine d4.mono ?_
          rintro e w4 ⟨rfl, C4, E4⟩
          have P4 := P3.on C4 E4
          have cq := P4.ct.own.cell 0 (by omega)
          go_wp2
          go_ret2
          exact ⟨by simp, fin _ P4⟩
        · have e0z : ¬ ((s : Int) = 0) := by omega
          have e1z : ¬ ((s : Int) = 12) := by omega
          go_wp2_with fail
          go_at_call 74
          refine d4.mono ?_
          rintro e w4 ⟨rfl, C4, E4⟩
          have P4 := P3.on C4 E4
          have cq := P4.ct.own.cell 0 (by omega)
          go_wp2
          go_ret2
          exact ⟨by simp [e0, e1], fin _ P4⟩
    · obtain ⟨p, s, h4⟩ : ∃ p s, Sort.median lt d I J K 0 = (p, s) := ⟨_, _, rfl⟩
      have hraw : Sort.rawPivot lt d a b = (p, s) := by simp only [Sort.rawPivot, if_pos h8, if_neg h50, ← hi, ← hj, ← hk, h4]
      rw [hraw, hintCode_hintOf]
      have d4 := median_any S w _ d I J K (w.heap.size + 1) 0 hI P0.ct (by omega) (by omega) (by omega) (by omega)
      rw [h4] at d4
      clear S hI
      have h8z : (8 : Int) ≤ (b : Int) - (a : Int) := by omega
      have h50z : ¬ (50 : Int) ≤ (b : Int) - (a : Int) := by omega
      clear h4 hi hj hk hraw
      have fin : ∀ w4, Pv g lb sf sb w w4 s → Done Inv row w w4 d := fun w4 P4 => P4.done HS.out HI.out
      go_enter Try.func65, Try.ntmps65
      by_cases e0 : s = 0
      · subst e0
        go_wp2_with fail
        go_at_call 74
        refine d4.mono ?_
        rintro e w4 ⟨rfl, C4, E4⟩
        have P4 := P0.on C4 E4
        have cq := P4.ct.own.cell 0 (by omega)
        go_wp2
        go_ret2
        exact ⟨by simp, fin _ P4⟩
      · by_cases e1 : s = 12
        · subst e1
          go_wp2_with fail
          go_at_call 74
          refine d4.mono ?_
          rintro e w4 ⟨rfl, C4, E4⟩
          have P4 := P0.on C4 E4
          have cq := P4.ct.own.cell 0 (by omega)
          go_wp2
          go_ret2
          exact ⟨by simp, fin _ P4⟩
        · have e0z : ¬ ((s : Int) = 0) := by omega
          have e1z : ¬ ((s : Int) = 12) := by omega
          go_wp2_with fail
          go_at_call 74
          refine d4.mono ?_
          rintro e w4 ⟨rfl, C4, E4⟩
          have P4 := P0.on C4 E4
          have cq := P4.ct.own.cell 0 (by omega)
          go_wp2
          go_ret2
          exact ⟨by simp [e0, e1], fin _ P4⟩
  · have hraw : Sort.rawPivot lt d a b = (J, 0) := by simp only [Sort.rawPivot, if_neg h8, ← hj]
    rw [hraw, hintCode_hintOf]
    clear S hI
    have h8z : ¬ (8 : Int) ≤ (b : Int) - (a : Int) := by omega
    clear hi hj hk hraw
    have fin : ∀ w4, Pv g lb sf sb w w4 0 → Done Inv row w w4 d := fun w4 P4 => P4.done HS.out HI.out
    have D0 := fin _ P0
    go_enter Try.func65, Try.ntmps65
    go_wp2
    go_ret2
    exact ⟨by simp, D0⟩

end Go.Proofs.Qxb6609005a
