import Derived.Test.Qxb6613227aN4
import Derived.Test.Qxb6613227aW6
namespace Go.Proofs.Qxb6613227a
open Go.RowKit
set_option linter.unusedSimpArgs false
set_option linter.unusedVariables false

/-- the walk stands still here -/
structure Hold (p : Prop) : Prop where
  out : p
theorem hold {p : Prop} (h : Hold p) : p := h.out

set_option maxRecDepth 100000 in
set_option maxHeartbeats 4000000 in
theorem pos4 (a0 a1 a2 : Option Addr) (n0 c0 n1 c1 n2 c2 : Nat) (fe fw : Nat → Int) (cf : Nat → Bool) (x c : Int) (w : World)
    (h0 : Rd w a0 n0 (fun i => .int .i64 (fe i))) (h1 : Rd w a1 n1 (fun i => .int .i64 (fw i))) (h2 : Rd w a2 n2 (fun i => .bool (cf i)))
    (l0 : n0 ≤ maxLen) (l1 : n1 ≤ maxLen) (l2 : n2 ≤ maxLen) (s0 : n0 ≤ 4096) (s1 : n1 ≤ 4096) (s2 : n2 ≤ 4096) (x1 : 0 ≤ x) (x2 : x < 4096) (y1 : 0 ≤ c) (y2 : c ≤ n0) :
    Calls Try.prog 4 #[.slice a0 n0 c0, .slice a1 n1 c1, .slice a2 n2 c2, .int .i64 x, .int .i64 c] w fun e w' => e = .returned (.bool true) ∧ Below w.heap.size w w' := by
  have H0 : Hid (Rd w a0 n0 (fun i => .int .i64 (fe i))) := h0
  have H1 : Hid (Rd w a1 n1 (fun i => .int .i64 (fw i))) := h1
  have H2 : Hid (Rd w a2 n2 (fun i => .bool (cf i))) := h2
  have LM : Hid (n0 ≤ maxLen ∧ n1 ≤ maxLen ∧ n2 ≤ maxLen) := ⟨l0, l1, l2⟩
  unfold maxLen at l0 l1 l2
  clear h0 h1 h2
  obtain ⟨x, rfl⟩ := Int.eq_ofNat_of_zero_le x1
  obtain ⟨c, rfl⟩ := Int.eq_ofNat_of_zero_le y1
  go_enter Try.func4, Try.ntmps4
  go_wp2_with fail
  go_at_call 13
  refine (zzBytes13 _ _ _ _ _ _ _ _ _ _ _ _ LM.out.1 LM.out.2.1 LM.out.2.2).mono ?_
  rintro e w' ⟨⟨r, rfl, -⟩, hw⟩
  rw [hw]
  clear hw
  cases r with
  | false =>
    go_wp2
    go_ret
    exact ⟨rfl, Below.refl _ _⟩
  | true =>
  go_wp2_with fail
  go_at_call 6
  refine (idsOK_any a0 n0 c0 fe _ LM.out.1 H0.out).mono ?_
  rintro e w' ⟨⟨r, rfl, hr0⟩, m0, rfl⟩
  have HR0 : Hid (r = true → ∀ i, i < n0 → 0 ≤ fe i ∧ fe i < 4096) := hr0
  clear hr0
  cases r with
  | false =>
    go_wp2
    go_ret
    exact ⟨rfl, below_drewN (Below.refl _ _) _⟩
  | true =>
  go_wp2_with fail
  go_at_call 6
  refine (idsOK_any a1 n1 c1 fw (w.drewN m0) LM.out.2.1 H1.out).mono ?_
  rintro e w' ⟨⟨r, rfl, hr1⟩, m1, rfl⟩
  have HR1 : Hid (r = true → ∀ i, i < n1 → 0 ≤ fw i ∧ fw i < 4096) := hr1
  clear hr1
  cases r with
  | false =>
    go_wp2
    go_ret
    exact ⟨rfl, below_drewN (Below.refl _ _) _⟩
  | true =>
  obtain ⟨ge, hge⟩ := nat_of (HR0.out (by simp))
  obtain ⟨gw, hgw⟩ := nat_of (HR1.out (by simp))
  have B0 : Hid (Below w.heap.size w ((w.drewN m0).drewN m1)) := below_drewN (below_drewN (Below.refl _ _) _) _
  have R0 : Hid (Rd ((w.drewN m0).drewN m1) a0 n0 (fun i => .int .i64 (ge i : Int))) := (H0.out.below B0.out).congr fun i hi => by rw [(hge i hi).1]
  have R1 : Hid (Rd ((w.drewN m0).drewN m1) a1 n1 (fun i => .int .i64 (gw i : Int))) := (H1.out.below B0.out).congr fun i hi => by rw [(hgw i hi).1]
  have R2 : Hid (Rd ((w.drewN m0).drewN m1) a2 n2 (fun i => .bool (cf i))) := H2.out.below B0.out
  have GE : Hid (∀ i, i < n0 → ge i < 4096) := fun i hi => (hge i hi).2
  have GW : Hid (∀ i, i < n1 → gw i < 4096) := fun i hi => (hgw i hi).2
  clear HR0 HR1 hge hgw H0 H1 H2
  generalize (w.drewN m0).drewN m1 = w0 at *
  go_wp2_with fail
  go_at_call 8
  refine (max_any a0 n0 c0 (fun i => (ge i : Int)) x w0 LM.out.1 R0.out (fun i hi => by have := GE.out i hi; omega) (by omega)).mono ?_
  rintro e w' ⟨⟨r1, rfl, hr1⟩, m0, rfl⟩
  obtain ⟨q1, rfl⟩ : ∃ q : Nat, r1 = q := ⟨r1.toNat, by omega⟩
  go_wp2_with fail
  go_at_call 8
  refine (max_any a1 n1 c1 (fun i => (gw i : Int)) q1 (w0.drewN m0) LM.out.2.1 R1.out (fun i hi => by have := GW.out i hi; omega) (by omega)).mono ?_
  rintro e w' ⟨⟨r2, rfl, hr2⟩, m1, rfl⟩
  obtain ⟨q2, rfl⟩ : ∃ q : Nat, r2 = q := ⟨r2.toNat, by omega⟩
  have NE : Hid (∀ i, i < n0 → ge i < q2 + 1) := fun i hi => by have := hr1.2.2 i hi; omega
  have NW : Hid (∀ i, i < n1 → gw i < q2 + 1) := fun i hi => by have := hr2.2.2 i hi; omega
  have hxq : x < q2 + 1 := by omega
  have hq4 : q2 + 1 ≤ 4096 := by omega
  have hadd : IntKind.i64.wrap ((q2 : Int) + 1) = ((q2 + 1 : Nat) : Int) := by rw [IntKind.wrap_i64]; omega
  clear hr1 hr2
  generalize q2 + 1 = N at *
  go_wp2_with fail
  go_at_call 7
  have B0' : Hid (Below w.heap.size w (w0.drewN (m0 + m1))) := below_drewN B0.out _
  have R0' : Hid (Rd (w0.drewN (m0 + m1)) a0 n0 (fun i => .int .i64 (ge i : Int))) := R0.out
  have R1' : Hid (Rd (w0.drewN (m0 + m1)) a1 n1 (fun i => .int .i64 (gw i : Int))) := R1.out
  have R2' : Hid (Rd (w0.drewN (m0 + m1)) a2 n2 (fun i => .bool (cf i))) := R2.out
  clear B0 R0 R1 R2
  generalize w0.drewN (m0 + m1) = wp at *
  refine (pool_any N a2 n2 c2 cf wp hq4 LM.out.2.2 R2'.out).mono ?_
  rintro e w1 ⟨rfl, hO, hP, hB⟩
  have HO : Hid (Own w1 wp.heap.size N (fun i => pv (wp.heap.size + 1) i)) := hO
  have HP1 : Hid (Pool w1 (wp.heap.size + 1) N (cntB n2 cf)) := hP
  have BB1 : Hid (Below w.heap.size w w1) := B0'.out.trans (hB.mono B0'.out.size)
  have R0 : Hid (Rd w1 a0 n0 (fun i => .int .i64 (ge i : Int))) := R0'.out.below hB
  have R1 : Hid (Rd w1 a1 n1 (fun i => .int .i64 (gw i : Int))) := R1'.out.below hB
  have R2 : Hid (Rd w1 a2 n2 (fun i => .bool (cf i))) := R2'.out.below hB
  have hgw : w.heap.size ≤ wp.heap.size := B0'.out.size
  have hg1 : wp.heap.size < w1.heap.size := hO.lt
  clear hO hP hB B0' R0' R1' R2'
  generalize wp.heap.size = g at *
  go_wp2_with fail
  go_at_call 9
  refine (pick_any (some ⟨g, 0, none⟩) N N (g + 1) a0 n0 c0 ge w1 hq4 s0 HO.out.rd R0.out NE.out).mono ?_
  rintro e w2 ⟨rfl, hO, hB⟩
  have HE2 : Hid (Own w2 w1.heap.size n0 (fun i => pv (g + 1) (ge i))) := hO
  have HO2 : Hid (Own w2 g N (fun i => pv (g + 1) i)) := HO.out.below hB hg1
  have HP2 : Hid (Pool w2 (g + 1) N (cntB n2 cf)) := HP1.out.below hB (fun i hi => HP1.out.lt i hi)
  have HPL : Hid (∀ i, i < N → g + 1 + i < w1.heap.size) := fun i hi => HP1.out.lt i hi
  have BB2 : Hid (Below w.heap.size w w2) := BB1.out.trans (hB.mono BB1.out.size)
  have R1' : Hid (Rd w2 a1 n1 (fun i => .int .i64 (gw i : Int))) := R1.out.below hB
  have R2' : Hid (Rd w2 a2 n2 (fun i => .bool (cf i))) := R2.out.below hB
  have hg2 : w1.heap.size < w2.heap.size := hO.lt
  clear hO hB R0 R1 R2 HO HP1 BB1
  generalize w1.heap.size = gpe at *
  go_wp2_with fail
  go_at_call 9
  refine (pick_any (some ⟨g, 0, none⟩) N N (g + 1) a1 n1 c1 gw w2 hq4 s1 HO2.out.rd R1'.out NW.out).mono ?_
  rintro e w3 ⟨rfl, hO, hB⟩
  have HE : Hid (Own w3 gpe n0 (fun i => pv (g + 1) (ge i))) := HE2.out.below hB hg2
  have HW : Hid (Own w3 w2.heap.size n1 (fun i => pv (g + 1) (gw i))) := hO
  have HO : Hid (Own w3 g N (fun i => pv (g + 1) i)) := HO2.out.below hB (by omega)
  have HP : Hid (Pool w3 (g + 1) N (cntB n2 cf)) := HP2.out.below hB (fun i hi => HP2.out.lt i hi)
  have BB3 : Hid (Below w.heap.size w w3) := BB2.out.trans (hB.mono BB2.out.size)
  have R1 : Hid (Rd w3 a1 n1 (fun i => .int .i64 (gw i : Int))) := R1'.out.below hB
  have R2 : Hid (Rd w3 a2 n2 (fun i => .bool (cf i))) := R2'.out.below hB
  have hg3 : w2.heap.size < w3.heap.size := hO.lt
  clear hO hB R1' R2' HO2 HP2 BB2 HE2
  generalize w2.heap.size = gpw at *
  have hM : IntKind.i64.wrap ((n0 : Int) + 1) = ((n0 + 1 : Nat) : Int) := by rw [IntKind.wrap_i64]; omega
  have hmk := run_mk0 (P := Try.prog) 26 30 (.pointer none) 8 Try.underlying26 info30 rfl (n0 + 1) (by omega) (by omega) w3
  generalize hMM : n0 + 1 = M at *
  have hW : IntKind.i64.wrap ((n1 : Int) + (M : Int)) = ((n1 + M : Nat) : Int) := by rw [IntKind.wrap_i64]; omega
  generalize hKK : n1 + M = KK at *
  by_cases hcn : c = n0
  · subst hcn
    obtain ⟨v1, v2, v3, v5, v6, ha1, hpx, ha2, ha3, ha5, ha6, hX, hDI, hDX⟩ := lay4 w3 g gpe gpw N c n1 c x M KK 0 ge gw (Nat.le_refl _) hMM hKK s0 s1 hg1 hg2 hg3 hxq HE.out HW.out HO.out NE.out NW.out (.inl ⟨rfl, rfl⟩)
    rw [Nat.sub_self, hMM] at ha3
    rw [hMM] at ha2
    have X : Hid (Below w3.heap.size w3 v6) := hX
    have DE : Hid (Drops v6 (some ⟨gpe, 0, none⟩) c (g + 1) ge N) := (HE.out.below hX (by omega)).drops (ml (by omega)) NE.out
    have DW : Hid (Drops v6 (some ⟨gpw, 0, none⟩) n1 (g + 1) gw N) := (HW.out.below hX (by omega)).drops (ml (by omega)) NW.out
    have DI : Hid (Drops v6 (some ⟨w3.heap.size, 0, none⟩) M (g + 1) (ins ge c x) N) := hDI
    have DX : Hid (Drops v6 (some ⟨v3.heap.size, 0, none⟩) KK (g + 1) (cat gw n1 (ins ge c x)) N) := hDX
    have P6 : Hid (Pool v6 (g + 1) N (cntB n2 cf)) := HP.out.below hX (fun i hi => HP.out.lt i hi)
    have S1 : Hid (Rd v6 a1 n1 (fun i => .int .i64 (gw i : Int))) := R1.out.below hX
    have S2 : Hid (Rd v6 a2 n2 (fun i => .bool (cf i))) := R2.out.below hX
    have BB6 : Hid (Below w.heap.size w v6) := BB3.out.trans (hX.mono BB3.out.size)
    have LAW : Hid (covN (cntB n2 cf) gw n1 (ins ge c x) M = (covN (cntB n2 cf) gw n1 ge c && (!cntB n2 cf x || hasN gw x n1))) := by
      rw [← hMM]; exact law_insert _ _ _ _ _ _ _ (by omega)
    have LAX : Hid (covN (cntB n2 cf) (cat gw n1 (ins ge c x)) KK (ins ge c x) M = true) := by rw [← hKK]; exact law_wide _ _ _ _ _
    have hmk2 := run_mk0 (P := Try.prog) 26 30 (.pointer none) 8 Try.underlying26 info30 rfl KK (by omega) (by omega) v3
    clear hX hDI hDX X HE HO HP HW R1 R2 BB3 NE NW GE GW
    go_wp2_with (first
      | (at_builtin; refine wpList_append_run _ rfl (.tmp 81) (.tmp 84) 26 rfl _ _ rfl rfl _ v1 ha1 ?_)
      | (at_builtin; refine wpList_append_run _ rfl (.tmp 86) (.tmp 91) 26 rfl _ _ rfl rfl _ v2 ha2 ?_)
      | (at_builtin; refine wpList_append_run _ rfl (.tmp 93) (.tmp 96) 26 rfl _ _ rfl rfl _ v3 ha3 ?_)
      | (at_builtin; refine wpList_append_run _ rfl (.tmp 104) (.tmp 105) 26 rfl _ _ rfl rfl _ v5 ha5 ?_)
      | (at_builtin; refine wpList_append_run _ rfl (.tmp 107) (.tmp 108) 26 rfl _ _ rfl rfl _ v6 ha6 ?_))
    go_at_call 10
    refine (zzcovers_any (some ⟨gpe, 0, none⟩) c c ge (some ⟨gpw, 0, none⟩) n1 n1 (g + 1) gw v6 P6.out DE.out DW.out).mono ?_
    rintro e v7 ⟨rfl, hB7⟩
    have Y7 : Hid (Below v6.heap.size v6 v7) := hB7
    clear hB7 ha1 ha2 ha3 ha5 ha6 hmk hmk2
    go_wp2_with fail
    go_at_call 10
    refine (zzcovers_any (some ⟨w3.heap.size, 0, none⟩) M M (ins ge c x) (some ⟨gpw, 0, none⟩) n1 n1 (g + 1) gw v7 (P6.out.below Y7.out (fun i hi => P6.out.lt i hi)) (DI.out.below Y7.out) (DW.out.below Y7.out)).mono ?_
    rintro e v8 ⟨rfl, hB8⟩
    have Y8 : Hid (Below v6.heap.size v6 v8) := Y7.out.trans (hB8.mono Y7.out.size)
    have cC := counted_any a2 n2 c2 cf x v8 LM.out.2.2 (by omega) (S2.out.below Y8.out)
    have cH : ∀ m, Calls Try.prog 12 #[.slice a1 n1 c1, .int .i64 (x : Int)] (v8.drewN m) fun e w' => e = .returned (.bool (hasN gw x n1)) ∧ ∃ k, w' = (v8.drewN m).drewN k := fun m => has_any a1 n1 c1 gw x (v8.drewN m) LM.out.2.1 (S1.out.below (below_drewN Y8.out m))
    have cX : ∀ m, Calls Try.prog 10 #[.slice (some ⟨w3.heap.size, 0, none⟩) M M, .slice (some ⟨v3.heap.size, 0, none⟩) KK KK] (v8.drewN m) fun r w' => r = .returned (.bool true) ∧ Below w.heap.size w w' := fun m =>
      (zzcovers_any (some ⟨w3.heap.size, 0, none⟩) M M (ins ge c x) (some ⟨v3.heap.size, 0, none⟩) KK KK (g + 1) (cat gw n1 (ins ge c x)) (v8.drewN m) (P6.out.below (below_drewN Y8.out m) (fun i hi => P6.out.lt i hi)) (DI.out.below (below_drewN Y8.out m)) (DX.out.below (below_drewN Y8.out m))).mono
        fun r w' ⟨h1, h2⟩ => ⟨by rw [h1, LAX.out], (BB6.out.trans ((below_drewN Y8.out m).mono BB6.out.size)).trans (h2.mono (Nat.le_trans BB6.out.size Y8.out.size))⟩
    rw [LAW.out]
    generalize covN (cntB n2 cf) gw n1 ge c = b1 at *
    generalize cntB n2 cf x = cn at *
    generalize hasN gw x n1 = hs at *
    clear hB8 Y7 Y8 DE DW DI DX P6 S1 S2 BB6 LAW LAX
    cases b1 with
    | false =>
      go_wp2_with (go_at_call 10; refine (cX 0).mono ?_; rintro e v9 ⟨rfl, hb9⟩)
      go_ret
      exact ⟨rfl, hb9⟩
    | true =>
      cases cn with
      | false =>
        go_wp2_with (first | (go_at_call 11; refine cC.mono ?_; rintro e w' ⟨rfl, m, rfl⟩) | (go_at_call 10; refine (cX _).mono ?_; rintro e v9 ⟨rfl, hb9⟩))
        go_ret
        exact ⟨rfl, hb9⟩
      | true =>
        cases hs with
        | false =>
          go_wp2_with (first | (go_at_call 11; refine cC.mono ?_; rintro e w' ⟨rfl, m, rfl⟩) | (go_at_call 12; refine (cH _).mono ?_; rintro e w' ⟨rfl, k, rfl⟩) | (go_at_call 10; refine (cX _).mono ?_; rintro e v9 ⟨rfl, hb9⟩))
          go_ret
          exact ⟨rfl, hb9⟩
        | true =>
          go_wp2_with (first | (go_at_call 11; refine cC.mono ?_; rintro e w' ⟨rfl, m, rfl⟩) | (go_at_call 12; refine (cH _).mono ?_; rintro e w' ⟨rfl, k, rfl⟩) | (go_at_call 10; refine (cX _).mono ?_; rintro e v9 ⟨rfl, hb9⟩))
          go_ret
          exact ⟨rfl, hb9⟩
  · obtain ⟨v1, v2, v3, v5, v6, ha1, hpx, ha2, ha3, ha5, ha6, hX, hDI, hDX⟩ := lay4 w3 g gpe gpw N n0 n1 c x M KK c ge gw (by omega) hMM hKK s0 s1 hg1 hg2 hg3 hxq HE.out HW.out HO.out NE.out NW.out (.inr ⟨hcn, rfl⟩)
    have hne : ¬ n0 = c := fun h => hcn h.symm
    have X : Hid (Below w3.heap.size w3 v6) := hX
    have DE : Hid (Drops v6 (some ⟨gpe, 0, none⟩) n0 (g + 1) ge N) := (HE.out.below hX (by omega)).drops (ml (by omega)) NE.out
    have DW : Hid (Drops v6 (some ⟨gpw, 0, none⟩) n1 (g + 1) gw N) := (HW.out.below hX (by omega)).drops (ml (by omega)) NW.out
    have DI : Hid (Drops v6 (some ⟨w3.heap.size, 0, none⟩) M (g + 1) (ins ge c x) N) := hDI
    have DX : Hid (Drops v6 (some ⟨v3.heap.size, 0, none⟩) KK (g + 1) (cat gw n1 (ins ge c x)) N) := hDX
    have P6 : Hid (Pool v6 (g + 1) N (cntB n2 cf)) := HP.out.below hX (fun i hi => HP.out.lt i hi)
    have S1 : Hid (Rd v6 a1 n1 (fun i => .int .i64 (gw i : Int))) := R1.out.below hX
    have S2 : Hid (Rd v6 a2 n2 (fun i => .bool (cf i))) := R2.out.below hX
    have BB6 : Hid (Below w.heap.size w v6) := BB3.out.trans (hX.mono BB3.out.size)
    have LAW : Hid (covN (cntB n2 cf) gw n1 (ins ge c x) M = (covN (cntB n2 cf) gw n1 ge n0 && (!cntB n2 cf x || hasN gw x n1))) := by
      rw [← hMM]; exact law_insert _ _ _ _ _ _ _ (by omega)
    have LAX : Hid (covN (cntB n2 cf) (cat gw n1 (ins ge c x)) KK (ins ge c x) M = true) := by rw [← hKK]; exact law_wide _ _ _ _ _
    have hmk2 := run_mk0 (P := Try.prog) 26 30 (.pointer none) 8 Try.underlying26 info30 rfl KK (by omega) (by omega) v3
    clear hX hDI hDX X HE HO HP HW R1 R2 BB3 NE NW GE GW
    go_wp2_with (first
      | (at_builtin; refine wpList_append_run _ rfl (.tmp 81) (.tmp 84) 26 rfl _ _ rfl rfl _ v1 ha1 ?_)
      | (at_builtin; refine wpList_append_run _ rfl (.tmp 86) (.tmp 91) 26 rfl _ _ rfl rfl _ v2 ha2 ?_)
      | (at_builtin; refine wpList_append_run _ rfl (.tmp 93) (.tmp 96) 26 rfl _ _ rfl rfl _ v3 ha3 ?_)
      | (at_builtin; refine wpList_append_run _ rfl (.tmp 104) (.tmp 105) 26 rfl _ _ rfl rfl _ v5 ha5 ?_)
      | (at_builtin; refine wpList_append_run _ rfl (.tmp 107) (.tmp 108) 26 rfl _ _ rfl rfl _ v6 ha6 ?_))
    go_at_call 10
    refine (zzcovers_any (some ⟨gpe, 0, none⟩) n0 n0 ge (some ⟨gpw, 0, none⟩) n1 n1 (g + 1) gw v6 P6.out DE.out DW.out).mono ?_
    rintro e v7 ⟨rfl, hB7⟩
    have Y7 : Hid (Below v6.heap.size v6 v7) := hB7
    clear hB7 ha1 ha2 ha3 ha5 ha6 hmk hmk2
    go_wp2_with fail
    go_at_call 10
    refine (zzcovers_any (some ⟨w3.heap.size, 0, none⟩) M M (ins ge c x) (some ⟨gpw, 0, none⟩) n1 n1 (g + 1) gw v7 (P6.out.below Y7.out (fun i hi => P6.out.lt i hi)) (DI.out.below Y7.out) (DW.out.below Y7.out)).mono ?_
    rintro e v8 ⟨rfl, hB8⟩
    have Y8 : Hid (Below v6.heap.size v6 v8) := Y7.out.trans (hB8.mono Y7.out.size)
    have cC := counted_any a2 n2 c2 cf x v8 LM.out.2.2 (by omega) (S2.out.below Y8.out)
    have cH : ∀ m, Calls Try.prog 12 #[.slice a1 n1 c1, .int .i64 (x : Int)] (v8.drewN m) fun e w' => e = .returned (.bool (hasN gw x n1)) ∧ ∃ k, w' = (v8.drewN m).drewN k := fun m => has_any a1 n1 c1 gw x (v8.drewN m) LM.out.2.1 (S1.out.below (below_drewN Y8.out m))
    have cX : ∀ m, Calls Try.prog 10 #[.slice (some ⟨w3.heap.size, 0, none⟩) M M, .slice (some ⟨v3.heap.size, 0, none⟩) KK KK] (v8.drewN m) fun r w' => r = .returned (.bool true) ∧ Below w.heap.size w w' := fun m =>
      (zzcovers_any (some ⟨w3.heap.size, 0, none⟩) M M (ins ge c x) (some ⟨v3.heap.size, 0, none⟩) KK KK (g + 1) (cat gw n1 (ins ge c x)) (v8.drewN m) (P6.out.below (below_drewN Y8.out m) (fun i hi => P6.out.lt i hi)) (DI.out.below (below_drewN Y8.out m)) (DX.out.below (below_drewN Y8.out m))).mono
        fun r w' ⟨h1, h2⟩ => ⟨by rw [h1, LAX.out], (BB6.out.trans ((below_drewN Y8.out m).mono BB6.out.size)).trans (h2.mono (Nat.le_trans BB6.out.size Y8.out.size))⟩
    rw [LAW.out]
    generalize covN (cntB n2 cf) gw n1 ge n0 = b1 at *
    generalize cntB n2 cf x = cn at *
    generalize hasN gw x n1 = hs at *
    clear hB8 Y7 Y8 DE DW DI DX P6 S1 S2 BB6 LAW LAX
    cases b1 with
    | false =>
      go_wp2_with (go_at_call 10; refine (cX 0).mono ?_; rintro e v9 ⟨rfl, hb9⟩)
      go_ret
      exact ⟨rfl, hb9⟩
    | true =>
      cases cn with
      | false =>
        go_wp2_with (first | (go_at_call 11; refine cC.mono ?_; rintro e w' ⟨rfl, m, rfl⟩) | (go_at_call 10; refine (cX _).mono ?_; rintro e v9 ⟨rfl, hb9⟩))
        go_ret
        exact ⟨rfl, hb9⟩
      | true =>
        cases hs with
        | false =>
          go_wp2_with (first | (go_at_call 11; refine cC.mono ?_; rintro e w' ⟨rfl, m, rfl⟩) | (go_at_call 12; refine (cH _).mono ?_; rintro e w' ⟨rfl, k, rfl⟩) | (go_at_call 10; refine (cX _).mono ?_; rintro e v9 ⟨rfl, hb9⟩))
          go_ret
          exact ⟨rfl, hb9⟩
        | true =>
          go_wp2_with (first | (go_at_call 11; refine cC.mono ?_; rintro e w' ⟨rfl, m, rfl⟩) | (go_at_call 12; refine (cH _).mono ?_; rintro e w' ⟨rfl, k, rfl⟩) | (go_at_call 10; refine (cX _).mono ?_; rintro e v9 ⟨rfl, hb9⟩))
          go_ret
          exact ⟨rfl, hb9⟩

theorem main4 (a0 a1 a2 : Option Addr) (n0 c0 n1 c1 n2 c2 : Nat) (fe fw : Nat → Int) (cf : Nat → Bool) (x c : Int) (w : World)
    (h0 : Rd w a0 n0 (fun i => .int .i64 (fe i))) (h1 : Rd w a1 n1 (fun i => .int .i64 (fw i))) (h2 : Rd w a2 n2 (fun i => .bool (cf i)))
    (l0 : n0 ≤ maxLen) (l1 : n1 ≤ maxLen) (l2 : n2 ≤ maxLen) :
    Calls Try.prog 4 #[.slice a0 n0 c0, .slice a1 n1 c1, .slice a2 n2 c2, .int .i64 x, .int .i64 c] w fun e w' => e = .returned (.bool true) ∧ Below w.heap.size w w' := by
  by_cases h : (n0 ≤ 4096 ∧ n1 ≤ 4096 ∧ n2 ≤ 4096) ∧ (0 ≤ x ∧ x < 4096) ∧ (0 ≤ c ∧ c ≤ n0)
  · exact pos4 a0 a1 a2 n0 c0 n1 c1 n2 c2 fe fw cf x c w h0 h1 h2 l0 l1 l2 h.1.1 h.1.2.1 h.1.2.2 h.2.1.1 h.2.1.2 h.2.2.1 h.2.2.2
  · exact neg4 a0 a1 a2 n0 c0 n1 c1 n2 c2 fe fw cf x c w h0 h1 h2 l0 l1 l2 h

end Go.Proofs.Qxb6613227a
