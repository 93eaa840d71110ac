import Derived.Test.Qxb6613227aN4
import Derived.Test.Qxb6613227aW6
namespace Go.Proofs.Qxb6613227a
open Go.RowKit
set_option linter.unusedSimpArgs false
set_option linter.unusedVariables false

/-- the rest while it is laid: its row at g with room for n, its first ones as L has them -/
structure Resting (w3 w : World) (g n G : Nat) (L : List Nat) : Prop where
  buf : Buf w 30 g n (L.map (pv G))
  below : Below g w3 w
theorem resting_step {w3 w : World} {n G : Nat} {L : List Nat} (h : Resting w3 w w3.heap.size n G L) (y : Nat) (hr : L.length < n) (hn : n ≤ 20000) :
    ∃ W, (∀ ty, (Builtin.append_ #[26, 26] ty #[.slice (some ⟨w3.heap.size, 0, none⟩) L.length n, .slice (some ⟨w.heap.size, 0, none⟩) 1 1]).run Try.prog (w.alloc (.cells #[.pointer (some ⟨G + y, 0, none⟩)] 30)) = .ok (.slice (some ⟨w3.heap.size, 0, none⟩) (L.length + 1) n) W) ∧
      Resting w3 W w3.heap.size n G (L ++ [y]) := by
  have hlt := h.buf.lt
  obtain ⟨W, ha, hu, he⟩ := (h.buf.keep (w' := w.alloc (.cells #[.pointer (some ⟨G + y, 0, none⟩)] 30)) (Below.heap_alloc _ _ _ hlt)).more (ml hn) L.length (by simp) G (fun _ => y) 1 1 (by omega) w.heap.size 0 1 (fun _ => pv G y)
    (fun i hi => by have : i = 0 := by omega
                    subst this; rw [World.cell?_alloc_new]; rfl) (by omega) (fun i _ => rfl) (L.length + 1) rfl
  exact ⟨W, ha, by rw [List.map_append]; exact hu, he.below (h.below.alloc (by omega) _) (Nat.le_refl _)⟩
theorem Resting.drops {w3 w : World} {g n G : Nat} {L : List Nat} (h : Resting w3 w g n G L) (hk : L.length ≤ maxLen) {N : Nat} (hN : ∀ y ∈ L, y < N) : Drops w (some ⟨g, 0, none⟩) L.length G (fun i => L.getD i 0) N := by
  refine ⟨hk, h.buf.rd L.length _ (by simp) (fun i hi => ?_), fun i hi => ?_⟩
  · simp [hi]
  · simp only [List.getD_eq_getElem?_getD, List.getElem?_eq_getElem hi, Option.getD_some]
    exact hN _ (List.getElem_mem _)

set_option maxRecDepth 100000 in
set_option maxHeartbeats 4000000 in
theorem pos3 (a0 a1 a2 : Option Addr) (n0 c0 n1 c1 n2 c2 : Nat) (fe fw : Nat → Int) (cf : Nat → Bool) (x c : Int) (w : World)
    (h0 : Rd w a0 n0 (fun i => .int .i64 (fe i))) (h1 : Rd w a1 n1 (fun i => .int .i64 (fw i))) (h2 : Rd w a2 n2 (fun i => .bool (cf i)))
    (l0 : n0 ≤ maxLen) (l1 : n1 ≤ maxLen) (l2 : n2 ≤ maxLen) (s0 : n0 ≤ 4096) (s1 : n1 ≤ 4096) (s2 : n2 ≤ 4096) (x1 : 0 ≤ x) (x2 : x < 4096) (y1 : 0 ≤ c) (y2 : c ≤ n0) :
    Calls Try.prog 3 #[.slice a0 n0 c0, .slice a1 n1 c1, .slice a2 n2 c2, .int .i64 x, .int .i64 c] w fun e w' => e = .returned (.bool true) ∧ Below w.heap.size w w' := by
  have H0 : Hid (Rd w a0 n0 (fun i => .int .i64 (fe i))) := h0
  have H1 : Hid (Rd w a1 n1 (fun i => .int .i64 (fw i))) := h1
  have H2 : Hid (Rd w a2 n2 (fun i => .bool (cf i))) := h2
  have LM : Hid (n0 ≤ maxLen ∧ n1 ≤ maxLen ∧ n2 ≤ maxLen) := ⟨l0, l1, l2⟩
  unfold maxLen at l0 l1 l2
  clear h0 h1 h2
  obtain ⟨x, rfl⟩ := Int.eq_ofNat_of_zero_le x1
  obtain ⟨c, rfl⟩ := Int.eq_ofNat_of_zero_le y1
  go_enter Try.func3, Try.ntmps3
  go_wp2_with fail
  go_at_call 5
  refine (zzBytes5 _ _ _ _ _ _ _ _ _ _ _ _ LM.out.1 LM.out.2.1 LM.out.2.2).mono ?_
  rintro e w' ⟨⟨r, rfl, -⟩, hw⟩
  rw [hw]
  clear hw
  cases r with
  | false =>
    go_wp2
    go_ret
    exact ⟨rfl, Below.refl _ _⟩
  | true =>
  go_wp2_with fail
  go_at_call 6
  refine (idsOK_any a0 n0 c0 fe _ LM.out.1 H0.out).mono ?_
  rintro e w' ⟨⟨r, rfl, hr0⟩, m0, rfl⟩
  have HR0 : Hid (r = true → ∀ i, i < n0 → 0 ≤ fe i ∧ fe i < 4096) := hr0
  clear hr0
  cases r with
  | false =>
    go_wp2
    go_ret
    exact ⟨rfl, below_drewN (Below.refl _ _) _⟩
  | true =>
  go_wp2_with fail
  go_at_call 6
  refine (idsOK_any a1 n1 c1 fw (w.drewN m0) LM.out.2.1 H1.out).mono ?_
  rintro e w' ⟨⟨r, rfl, hr1⟩, m1, rfl⟩
  have HR1 : Hid (r = true → ∀ i, i < n1 → 0 ≤ fw i ∧ fw i < 4096) := hr1
  clear hr1
  cases r with
  | false =>
    go_wp2
    go_ret
    exact ⟨rfl, below_drewN (Below.refl _ _) _⟩
  | true =>
  obtain ⟨ge, hge⟩ := nat_of (HR0.out (by simp))
  obtain ⟨gw, hgw⟩ := nat_of (HR1.out (by simp))
  have B0 : Hid (Below w.heap.size w ((w.drewN m0).drewN m1)) := below_drewN (below_drewN (Below.refl _ _) _) _
  have R0 : Hid (Rd ((w.drewN m0).drewN m1) a0 n0 (fun i => .int .i64 (ge i : Int))) := (H0.out.below B0.out).congr fun i hi => by rw [(hge i hi).1]
  have R1 : Hid (Rd ((w.drewN m0).drewN m1) a1 n1 (fun i => .int .i64 (gw i : Int))) := (H1.out.below B0.out).congr fun i hi => by rw [(hgw i hi).1]
  have R2 : Hid (Rd ((w.drewN m0).drewN m1) a2 n2 (fun i => .bool (cf i))) := H2.out.below B0.out
  have GE : Hid (∀ i, i < n0 → ge i < 4096) := fun i hi => (hge i hi).2
  have GW : Hid (∀ i, i < n1 → gw i < 4096) := fun i hi => (hgw i hi).2
  clear HR0 HR1 hge hgw H0 H1 H2
  generalize (w.drewN m0).drewN m1 = w0 at *
  go_wp2_with fail
  go_at_call 8
  refine (max_any a0 n0 c0 (fun i => (ge i : Int)) x w0 LM.out.1 R0.out (fun i hi => by have := GE.out i hi; omega) (by omega)).mono ?_
  rintro e w' ⟨⟨r1, rfl, hr1⟩, m0, rfl⟩
  obtain ⟨q1, rfl⟩ : ∃ q : Nat, r1 = q := ⟨r1.toNat, by omega⟩
  go_wp2_with fail
  go_at_call 8
  refine (max_any a1 n1 c1 (fun i => (gw i : Int)) q1 (w0.drewN m0) LM.out.2.1 R1.out (fun i hi => by have := GW.out i hi; omega) (by omega)).mono ?_
  rintro e w' ⟨⟨r2, rfl, hr2⟩, m1, rfl⟩
  obtain ⟨q2, rfl⟩ : ∃ q : Nat, r2 = q := ⟨r2.toNat, by omega⟩
  have NE : Hid (∀ i, i < n0 → ge i < q2 + 1) := fun i hi => by have := hr1.2.2 i hi; omega
  have NW : Hid (∀ i, i < n1 → gw i < q2 + 1) := fun i hi => by have := hr2.2.2 i hi; omega
  have hxq : x < q2 + 1 := by omega
  have hq4 : q2 + 1 ≤ 4096 := by omega
  have hadd : IntKind.i64.wrap ((q2 : Int) + 1) = ((q2 + 1 : Nat) : Int) := by rw [IntKind.wrap_i64]; omega
  clear hr1 hr2
  generalize q2 + 1 = N at *
  go_wp2_with fail
  go_at_call 7
  have B0' : Hid (Below w.heap.size w (w0.drewN (m0 + m1))) := below_drewN B0.out _
  have R0' : Hid (Rd (w0.drewN (m0 + m1)) a0 n0 (fun i => .int .i64 (ge i : Int))) := R0.out
  have R1' : Hid (Rd (w0.drewN (m0 + m1)) a1 n1 (fun i => .int .i64 (gw i : Int))) := R1.out
  have R2' : Hid (Rd (w0.drewN (m0 + m1)) a2 n2 (fun i => .bool (cf i))) := R2.out
  clear B0 R0 R1 R2
  generalize w0.drewN (m0 + m1) = wp at *
  refine (pool_any N a2 n2 c2 cf wp hq4 LM.out.2.2 R2'.out).mono ?_
  rintro e w1 ⟨rfl, hO, hP, hB⟩
  have HO : Hid (Own w1 wp.heap.size N (fun i => pv (wp.heap.size + 1) i)) := hO
  have HP1 : Hid (Pool w1 (wp.heap.size + 1) N (cntB n2 cf)) := hP
  have BB1 : Hid (Below w.heap.size w w1) := B0'.out.trans (hB.mono B0'.out.size)
  have R0 : Hid (Rd w1 a0 n0 (fun i => .int .i64 (ge i : Int))) := R0'.out.below hB
  have R1 : Hid (Rd w1 a1 n1 (fun i => .int .i64 (gw i : Int))) := R1'.out.below hB
  have R2 : Hid (Rd w1 a2 n2 (fun i => .bool (cf i))) := R2'.out.below hB
  have hgw : w.heap.size ≤ wp.heap.size := B0'.out.size
  have hg1 : wp.heap.size < w1.heap.size := hO.lt
  clear hO hP hB B0' R0' R1' R2'
  generalize wp.heap.size = g at *
  go_wp2_with fail
  go_at_call 9
  refine (pick_any (some ⟨g, 0, none⟩) N N (g + 1) a0 n0 c0 ge w1 hq4 s0 HO.out.rd R0.out NE.out).mono ?_
  rintro e w2 ⟨rfl, hO, hB⟩
  have HE2 : Hid (Own w2 w1.heap.size n0 (fun i => pv (g + 1) (ge i))) := hO
  have HO2 : Hid (Own w2 g N (fun i => pv (g + 1) i)) := HO.out.below hB hg1
  have HP2 : Hid (Pool w2 (g + 1) N (cntB n2 cf)) := HP1.out.below hB (fun i hi => HP1.out.lt i hi)
  have HPL : Hid (∀ i, i < N → g + 1 + i < w1.heap.size) := fun i hi => HP1.out.lt i hi
  have BB2 : Hid (Below w.heap.size w w2) := BB1.out.trans (hB.mono BB1.out.size)
  have R1' : Hid (Rd w2 a1 n1 (fun i => .int .i64 (gw i : Int))) := R1.out.below hB
  have R2' : Hid (Rd w2 a2 n2 (fun i => .bool (cf i))) := R2.out.below hB
  have R0'' : Hid (Rd w2 a0 n0 (fun i => .int .i64 (ge i : Int))) := R0.out.below hB
  have hg2 : w1.heap.size < w2.heap.size := hO.lt
  clear hO hB R0 R1 R2 HO HP1 BB1
  generalize w1.heap.size = gpe at *
  go_wp2_with fail
  go_at_call 9
  refine (pick_any (some ⟨g, 0, none⟩) N N (g + 1) a1 n1 c1 gw w2 hq4 s1 HO2.out.rd R1'.out NW.out).mono ?_
  rintro e w3 ⟨rfl, hO, hB⟩
  have HE : Hid (Own w3 gpe n0 (fun i => pv (g + 1) (ge i))) := HE2.out.below hB hg2
  have HW : Hid (Own w3 w2.heap.size n1 (fun i => pv (g + 1) (gw i))) := hO
  have HO : Hid (Own w3 g N (fun i => pv (g + 1) i)) := HO2.out.below hB (by omega)
  have HP : Hid (Pool w3 (g + 1) N (cntB n2 cf)) := HP2.out.below hB (fun i hi => HP2.out.lt i hi)
  have BB3 : Hid (Below w.heap.size w w3) := BB2.out.trans (hB.mono BB2.out.size)
  have R1 : Hid (Rd w3 a1 n1 (fun i => .int .i64 (gw i : Int))) := R1'.out.below hB
  have R2 : Hid (Rd w3 a2 n2 (fun i => .bool (cf i))) := R2'.out.below hB
  have R0 : Hid (Rd w3 a0 n0 (fun i => .int .i64 (ge i : Int))) := R0''.out.below hB
  have hg3 : w2.heap.size < w3.heap.size := hO.lt
  clear hO hB R0'' R1' R2' HO2 HP2 BB2 HE2
  generalize w2.heap.size = gpw at *
  have hmk := run_mk0 (P := Try.prog) 26 30 (.pointer none) 8 Try.underlying26 info30 rfl n1 (by omega) (by omega) w3
  have Z0 : Hid (Resting w3 (w3.alloc (.cells (madeCells #[.pointer none] n1) 30)) w3.heap.size n1 (g + 1) []) := ⟨Buf.made _ _ _ _, (Below.refl _ w3).alloc (Nat.le_refl _) _⟩
  go_wp2
  go_loopg [14, 15] n1 (fun kx s t wr => ∃ k : Nat, k ≤ n1 ∧ t = .int .i64 k ∧ s = .slice (some ⟨w3.heap.size, 0, none⟩) (rst gw x k).length n1 ∧ n1 - k ≤ kx ∧ Hid (Resting w3 wr w3.heap.size n1 (g + 1) (rst gw x k)))
  case atStart => exact ⟨0, Nat.zero_le _, rfl, rfl, by omega, Z0⟩
  case round =>
    obtain ⟨k, hk, rfl, rfl, hgh, hZ⟩ := hrel
    have hle := rst_len gw x k
    by_cases hlt : k < n1
    · rcases R1.out.below hZ.out.below with e0 | ⟨b0, o0, ha0, hb0, hc0⟩
      · omega
      have d0 : wr.cell? ⟨b0, o0 + k, none⟩ = some (.int .i64 (gw k : Int)) := hc0 k hlt
      have d1 : wr.cell? ⟨g, gw k, none⟩ = some (.pointer (some ⟨g + 1 + gw k, 0, none⟩)) := by rw [hZ.out.below.cell (show g < w3.heap.size by omega)]; exact HO.out.cell (gw k) (NW.out k hlt)
      have d2 := NW.out k hlt
      obtain ⟨W, ha, hR⟩ := resting_step hZ.out (gw k) (by omega) (by omega)
      have HR : Hid (Resting w3 W w3.heap.size n1 (g + 1) (rst gw x k ++ [gw k])) := hR
      subst ha0
      clear hc0 hR
      by_cases hx : gw k = x
      · have hxi : (gw k : Int) = (x : Int) := by omega
        have HK : Hid (rst gw x (k + 1) = rst gw x k) := (by rw [rst, if_pos hx, List.append_nil] : rst gw x (k + 1) = rst gw x k)
        clear hx ha HR
        go_wp2
        go_roundg (n1 - (k + 1))
        case measure => omega
        case rel => exact ⟨k + 1, by omega, by go_num, by rw [HK.out], Nat.le_refl _, by rw [HK.out]; exact hZ⟩
      · have hxi : ¬ (gw k : Int) = (x : Int) := by omega
        have HK : Hid (rst gw x (k + 1) = rst gw x k ++ [gw k]) := (by rw [rst, if_neg hx] : rst gw x (k + 1) = rst gw x k ++ [gw k])
        clear hx
        generalize hLL : rst gw x k = L at *
        go_wp2_with (at_builtin; refine wpList_append_run _ rfl (.tmp 94) (.tmp 102) 26 rfl _ _ rfl rfl _ W ha ?_)
        go_roundg (n1 - (k + 1))
        case measure => omega
        case rel => exact ⟨k + 1, by omega, by go_num, by rw [HK.out]; simp, Nat.le_refl _, by rw [HK.out]; exact HR⟩
    · have : k = n1 := by omega
      subst this
      have X := hZ.out.below
      have OE : Own wr gpe n0 (fun i => pv (g + 1) (ge i)) := HE.out.below X (by omega)
      have DE : Hid (Drops wr (some ⟨gpe, 0, none⟩) n0 (g + 1) ge N) := OE.drops (ml (by omega)) NE.out
      have DW : Hid (Drops wr (some ⟨gpw, 0, none⟩) k (g + 1) gw N) := (HW.out.below X (by omega)).drops (ml (by omega)) NW.out
      have DL : Hid (Drops wr (some ⟨gpe, 0, none⟩) c (g + 1) ge N) := Own.drops ⟨OE.lt, fun i hi => OE.cell i (by omega), OE.thaw⟩ (ml (by omega)) (fun i hi => NE.out i (by omega))
      have DT : Hid (Drops wr (some ⟨w3.heap.size, 0, none⟩) (rst gw x k).length (g + 1) (fun i => (rst gw x k).getD i 0) N) := hZ.out.drops (ml (by omega)) (fun y hy => by
        obtain ⟨_, i, hi, rfl⟩ := (mem_rst gw x y k).1 hy
        exact NW.out i hi)
      have PR : Hid (Pool wr (g + 1) N (cntB n2 cf)) := HP.out.below X (fun i hi => HP.out.lt i hi)
      have S0 : Hid (Rd wr a0 n0 (fun i => .int .i64 (ge i : Int))) := R0.out.below X
      have S2 : Hid (Rd wr a2 n2 (fun i => .bool (cf i))) := R2.out.below X
      have BBr : Hid (Below w.heap.size w wr) := BB3.out.trans (X.mono BB3.out.size)
      have cov : ∀ v, Below wr.heap.size wr v → ∀ (ae : Option Addr) (ne ce : Nat) (e : Nat → Nat) (a : Option Addr) (n c : Nat) (f : Nat → Nat), Drops wr ae ne (g + 1) e N → Drops wr a n (g + 1) f N →
          Calls Try.prog 10 #[.slice ae ne ce, .slice a n c] v fun r w' => r = .returned (.bool (covN (cntB n2 cf) f n e ne)) ∧ Below wr.heap.size wr w' := fun v hv ae ne ce e a n c f h1 h2 =>
        (zzcovers_any ae ne ce e a n c (g + 1) f v (PR.out.below hv (fun i hi => PR.out.lt i hi)) (h1.below hv) (h2.below hv)).mono fun r w' ⟨h3, h4⟩ => ⟨h3, hv.trans (h4.mono hv.size)⟩
      have LR : Hid (covN (cntB n2 cf) (fun i => (rst gw x k).getD i 0) (rst gw x k).length ge n0 = (covN (cntB n2 cf) gw k ge n0 && !(cntB n2 cf x && hasN ge x n0))) := law_rest _ _ _ _ _ _
      have LC : Hid (covN (cntB n2 cf) gw k ge n0 = (covN (cntB n2 cf) gw k ge c && covN (cntB n2 cf) gw k (fun i => ge (c + i)) (n0 - c))) := law_cut _ _ _ _ _ _ (by omega)
      generalize rst gw x k = L at *
      clear X HE HO HP HW R0 R1 R2 BB3 NW GE GW hZ Z0 hmk
      by_cases hcn : c = n0
      · subst hcn
        have DR : Hid (Drops wr (some ⟨gpe, 0, none⟩) 0 (g + 1) (fun i => ge (c + i)) N) := ⟨Nat.zero_le _, .inl rfl, fun i hi => by omega⟩
        rw [Nat.sub_self] at LC
        clear OE
        go_wp2_with fail
        go_at_call 10
        refine (cov _ (Below.refl _ _) _ _ _ _ _ _ _ _ DE.out DW.out).mono ?_
        rintro e v1 ⟨rfl, B1⟩
        go_wp2_with fail
        go_at_call 10
        refine (cov _ B1 _ _ _ _ _ _ _ _ DL.out DW.out).mono ?_
        rintro e v2 ⟨rfl, B2⟩
        go_wp2_with fail
        go_at_call 10
        refine (cov _ B2 _ _ _ _ _ _ _ _ DR.out DW.out).mono ?_
        rintro e v3 ⟨rfl, B3⟩
        go_wp2_with fail
        go_at_call 10
        refine (cov _ B3 _ _ _ _ _ _ _ _ DE.out DT.out).mono ?_
        rintro e v4 ⟨rfl, B4⟩
        have cC := counted_any a2 n2 c2 cf x v4 LM.out.2.2 (by omega) (S2.out.below B4)
        have cH : ∀ m, Calls Try.prog 12 #[.slice a0 c c0, .int .i64 (x : Int)] (v4.drewN m) fun e w' => e = .returned (.bool (hasN ge x c)) ∧ ∃ q, w' = (v4.drewN m).drewN q := fun m => has_any a0 c c0 ge x (v4.drewN m) LM.out.1 (S0.out.below (below_drewN B4 m))
        have cW : ∀ m, Calls Try.prog 10 #[.slice (some ⟨gpw, 0, none⟩) k k, .slice (some ⟨gpw, 0, none⟩) k k] (v4.drewN m) fun r w' => r = .returned (.bool true) ∧ Below wr.heap.size wr w' := fun m =>
          (cov _ (below_drewN B4 m) _ _ _ _ _ _ _ _ DW.out DW.out).mono fun r w' ⟨h1, h2⟩ => ⟨by rw [h1, law_self], h2⟩
        have cE : ∀ v, Below wr.heap.size wr v → Calls Try.prog 10 #[.slice (some ⟨gpe, 0, none⟩) c c, .slice (some ⟨gpe, 0, none⟩) c c] v fun r w' => r = .returned (.bool true) ∧ Below w.heap.size w w' := fun v hv =>
          (cov v hv _ _ _ _ _ _ _ _ DE.out DE.out).mono fun r w' ⟨h1, h2⟩ => ⟨by rw [h1, law_self], BBr.out.trans (h2.mono BBr.out.size)⟩
        rw [LR.out, LC.out]
        generalize covN (cntB n2 cf) gw k ge c = b1 at *
        generalize covN (cntB n2 cf) gw k (fun i => ge (c + i)) 0 = b2 at *
        generalize cntB n2 cf x = cn at *
        generalize hasN ge x c = hs at *
        clear cov DE DW DL DR DT S0 S2 LC LR B1 B2 B3 B4
        cases b1 with
        | false =>
          go_wp2_with (first | (go_at_call_of 10 (Value.slice (some ⟨gpw, 0, none⟩) k k); refine (cW 0).mono ?_; rintro e v9 ⟨rfl, hb9⟩) | (go_at_call_of 10 (Value.slice (some ⟨gpe, 0, none⟩) c c); refine (cE _ hb9).mono ?_; rintro e v10 ⟨rfl, hb10⟩))
          go_ret
          exact ⟨rfl, hb10⟩
        | true =>
          cases b2 with
          | false =>
            go_wp2_with (first | (go_at_call_of 10 (Value.slice (some ⟨gpw, 0, none⟩) k k); refine (cW 0).mono ?_; rintro e v9 ⟨rfl, hb9⟩) | (go_at_call_of 10 (Value.slice (some ⟨gpe, 0, none⟩) c c); refine (cE _ hb9).mono ?_; rintro e v10 ⟨rfl, hb10⟩))
            go_ret
            exact ⟨rfl, hb10⟩
          | true =>
            cases cn with
            | false =>
              go_wp2_with (first | (go_at_call 11; refine cC.mono ?_; rintro e w' ⟨rfl, m, rfl⟩) | (go_at_call_of 10 (Value.slice (some ⟨gpw, 0, none⟩) k k); refine (cW _).mono ?_; rintro e v9 ⟨rfl, hb9⟩) | (go_at_call_of 10 (Value.slice (some ⟨gpe, 0, none⟩) c c); refine (cE _ hb9).mono ?_; rintro e v10 ⟨rfl, hb10⟩))
              go_ret
              exact ⟨rfl, hb10⟩
            | true =>
              cases hs with
              | false =>
                go_wp2_with (first | (go_at_call 11; refine cC.mono ?_; rintro e w' ⟨rfl, m, rfl⟩) | (go_at_call 12; refine (cH _).mono ?_; rintro e w' ⟨rfl, q, rfl⟩) | (go_at_call_of 10 (Value.slice (some ⟨gpw, 0, none⟩) k k); refine (cW _).mono ?_; rintro e v9 ⟨rfl, hb9⟩) | (go_at_call_of 10 (Value.slice (some ⟨gpe, 0, none⟩) c c); refine (cE _ hb9).mono ?_; rintro e v10 ⟨rfl, hb10⟩))
                go_ret
                exact ⟨rfl, hb10⟩
              | true =>
                go_wp2_with (first | (go_at_call 11; refine cC.mono ?_; rintro e w' ⟨rfl, m, rfl⟩) | (go_at_call 12; refine (cH _).mono ?_; rintro e w' ⟨rfl, q, rfl⟩) | (go_at_call_of 10 (Value.slice (some ⟨gpw, 0, none⟩) k k); refine (cW _).mono ?_; rintro e v9 ⟨rfl, hb9⟩) | (go_at_call_of 10 (Value.slice (some ⟨gpe, 0, none⟩) c c); refine (cE _ hb9).mono ?_; rintro e v10 ⟨rfl, hb10⟩))
                go_ret
                exact ⟨rfl, hb10⟩
      · have hne : ¬ n0 = c := fun h => hcn h.symm
        have DR : Hid (Drops wr (some ⟨gpe, c, none⟩) (n0 - c) (g + 1) (fun i => ge (c + i)) N) := ⟨ml (by omega), .inr ⟨gpe, c, rfl, OE.lt, fun i hi => OE.cell (c + i) (by omega)⟩, fun i hi => NE.out (c + i) (by omega)⟩
        clear OE
        go_wp2_with fail
        go_at_call 10
        refine (cov _ (Below.refl _ _) _ _ _ _ _ _ _ _ DE.out DW.out).mono ?_
        rintro e v1 ⟨rfl, B1⟩
        go_wp2_with fail
        go_at_call 10
        refine (cov _ B1 _ _ _ _ _ _ _ _ DL.out DW.out).mono ?_
        rintro e v2 ⟨rfl, B2⟩
        go_wp2_with fail
        go_at_call 10
        refine (cov _ B2 _ _ _ _ _ _ _ _ DR.out DW.out).mono ?_
        rintro e v3 ⟨rfl, B3⟩
        go_wp2_with fail
        go_at_call 10
        refine (cov _ B3 _ _ _ _ _ _ _ _ DE.out DT.out).mono ?_
        rintro e v4 ⟨rfl, B4⟩
        have cC := counted_any a2 n2 c2 cf x v4 LM.out.2.2 (by omega) (S2.out.below B4)
        have cH : ∀ m, Calls Try.prog 12 #[.slice a0 n0 c0, .int .i64 (x : Int)] (v4.drewN m) fun e w' => e = .returned (.bool (hasN ge x n0)) ∧ ∃ q, w' = (v4.drewN m).drewN q := fun m => has_any a0 n0 c0 ge x (v4.drewN m) LM.out.1 (S0.out.below (below_drewN B4 m))
        have cW : ∀ m, Calls Try.prog 10 #[.slice (some ⟨gpw, 0, none⟩) k k, .slice (some ⟨gpw, 0, none⟩) k k] (v4.drewN m) fun r w' => r = .returned (.bool true) ∧ Below wr.heap.size wr w' := fun m =>
          (cov _ (below_drewN B4 m) _ _ _ _ _ _ _ _ DW.out DW.out).mono fun r w' ⟨h1, h2⟩ => ⟨by rw [h1, law_self], h2⟩
        have cE : ∀ v, Below wr.heap.size wr v → Calls Try.prog 10 #[.slice (some ⟨gpe, 0, none⟩) n0 n0, .slice (some ⟨gpe, 0, none⟩) n0 n0] v fun r w' => r = .returned (.bool true) ∧ Below w.heap.size w w' := fun v hv =>
          (cov v hv _ _ _ _ _ _ _ _ DE.out DE.out).mono fun r w' ⟨h1, h2⟩ => ⟨by rw [h1, law_self], BBr.out.trans (h2.mono BBr.out.size)⟩
        rw [LR.out, LC.out]
        generalize covN (cntB n2 cf) gw k ge c = b1 at *
        generalize covN (cntB n2 cf) gw k (fun i => ge (c + i)) (n0 - c) = b2 at *
        generalize cntB n2 cf x = cn at *
        generalize hasN ge x n0 = hs at *
        clear cov DE DW DL DR DT S0 S2 LC LR B1 B2 B3 B4
        cases b1 with
        | false =>
          go_wp2_with (first | (go_at_call_of 10 (Value.slice (some ⟨gpw, 0, none⟩) k k); refine (cW 0).mono ?_; rintro e v9 ⟨rfl, hb9⟩) | (go_at_call_of 10 (Value.slice (some ⟨gpe, 0, none⟩) n0 n0); refine (cE _ hb9).mono ?_; rintro e v10 ⟨rfl, hb10⟩))
          go_ret
          exact ⟨rfl, hb10⟩
        | true =>
          cases b2 with
          | false =>
            go_wp2_with (first | (go_at_call_of 10 (Value.slice (some ⟨gpw, 0, none⟩) k k); refine (cW 0).mono ?_; rintro e v9 ⟨rfl, hb9⟩) | (go_at_call_of 10 (Value.slice (some ⟨gpe, 0, none⟩) n0 n0); refine (cE _ hb9).mono ?_; rintro e v10 ⟨rfl, hb10⟩))
            go_ret
            exact ⟨rfl, hb10⟩
          | true =>
            cases cn with
            | false =>
              go_wp2_with (first | (go_at_call 11; refine cC.mono ?_; rintro e w' ⟨rfl, m, rfl⟩) | (go_at_call_of 10 (Value.slice (some ⟨gpw, 0, none⟩) k k); refine (cW _).mono ?_; rintro e v9 ⟨rfl, hb9⟩) | (go_at_call_of 10 (Value.slice (some ⟨gpe, 0, none⟩) n0 n0); refine (cE _ hb9).mono ?_; rintro e v10 ⟨rfl, hb10⟩))
              go_ret
              exact ⟨rfl, hb10⟩
            | true =>
              cases hs with
              | false =>
                go_wp2_with (first | (go_at_call 11; refine cC.mono ?_; rintro e w' ⟨rfl, m, rfl⟩) | (go_at_call 12; refine (cH _).mono ?_; rintro e w' ⟨rfl, q, rfl⟩) | (go_at_call_of 10 (Value.slice (some ⟨gpw, 0, none⟩) k k); refine (cW _).mono ?_; rintro e v9 ⟨rfl, hb9⟩) | (go_at_call_of 10 (Value.slice (some ⟨gpe, 0, none⟩) n0 n0); refine (cE _ hb9).mono ?_; rintro e v10 ⟨rfl, hb10⟩))
                go_ret
                exact ⟨rfl, hb10⟩
              | true =>
                go_wp2_with (first | (go_at_call 11; refine cC.mono ?_; rintro e w' ⟨rfl, m, rfl⟩) | (go_at_call 12; refine (cH _).mono ?_; rintro e w' ⟨rfl, q, rfl⟩) | (go_at_call_of 10 (Value.slice (some ⟨gpw, 0, none⟩) k k); refine (cW _).mono ?_; rintro e v9 ⟨rfl, hb9⟩) | (go_at_call_of 10 (Value.slice (some ⟨gpe, 0, none⟩) n0 n0); refine (cE _ hb9).mono ?_; rintro e v10 ⟨rfl, hb10⟩))
                go_ret
                exact ⟨rfl, hb10⟩

theorem main3 (a0 a1 a2 : Option Addr) (n0 c0 n1 c1 n2 c2 : Nat) (fe fw : Nat → Int) (cf : Nat → Bool) (x c : Int) (w : World)
    (h0 : Rd w a0 n0 (fun i => .int .i64 (fe i))) (h1 : Rd w a1 n1 (fun i => .int .i64 (fw i))) (h2 : Rd w a2 n2 (fun i => .bool (cf i)))
    (l0 : n0 ≤ maxLen) (l1 : n1 ≤ maxLen) (l2 : n2 ≤ maxLen) :
    Calls Try.prog 3 #[.slice a0 n0 c0, .slice a1 n1 c1, .slice a2 n2 c2, .int .i64 x, .int .i64 c] w fun e w' => e = .returned (.bool true) ∧ Below w.heap.size w w' := by
  by_cases h : (n0 ≤ 4096 ∧ n1 ≤ 4096 ∧ n2 ≤ 4096) ∧ (0 ≤ x ∧ x < 4096) ∧ (0 ≤ c ∧ c ≤ n0)
  · exact pos3 a0 a1 a2 n0 c0 n1 c1 n2 c2 fe fw cf x c w h0 h1 h2 l0 l1 l2 h.1.1 h.1.2.1 h.1.2.2 h.2.1.1 h.2.1.2 h.2.2.1 h.2.2.2
  · exact neg3 a0 a1 a2 n0 c0 n1 c1 n2 c2 fe fw cf x c w h0 h1 h2 l0 l1 l2 h

end Go.Proofs.Qxb6613227a
