import Derived.Test.Qxb6609005aW6
namespace Go.Proofs.Qxb6609005a
open Go.RowKit Go.WideMaps Go.Maps Go.Sort
set_option linter.unusedSimpArgs false
set_option linter.unusedVariables false

def mostK (c d : Clk) : Nat → Bool
  | 0 => true
  | k + 1 => mostK c d k && decide (c.cn k ≤ d.cnt (c.hs k))
def mostB (c d : Clk) : Bool := decide (c.n ≤ d.cnt c.own) && mostK c d c.len

theorem mostK_iff (c d : Clk) : ∀ k, mostK c d k = true ↔ ∀ j, j < k → c.cn j ≤ d.cnt (c.hs j)
  | 0 => by simp [mostK]
  | k + 1 => by
    rw [mostK, Bool.and_eq_true, mostK_iff c d k, decide_eq_true_eq]
    constructor
    · rintro ⟨h1, h2⟩ i hi
      by_cases e : i = k
      · subst e; exact h2
      · exact h1 i (by omega)
    · intro h; exact ⟨fun i hi => h i (by omega), h k (by omega)⟩
theorem mostB_iff (c d : Clk) : mostB c d = true ↔ c.Most d := by
  unfold mostB; rw [Bool.and_eq_true, mostK_iff, decide_eq_true_eq]; rfl
theorem mostB_no {c d : Clk} {j : Nat} (hj : j < c.len) (h : ¬ c.cn j ≤ d.cnt (c.hs j)) : mostB c d = false := by
  cases e : mostB c d with
  | false => rfl
  | true => exact absurd (((mostB_iff c d).1 e).2 j hj) h
theorem mostK_next {c d : Clk} {j : Nat} (h : mostK c d j = true) (h2 : c.cn j ≤ d.cnt (c.hs j)) : mostK c d (j + 1) = true := by
  rw [mostK, h]; simp [h2]

theorem cnt_own {d : Clk} {i : Int} (h : i = d.own) : d.cnt i = d.n := by unfold Clk.cnt; rw [if_pos h]
theorem cnt_other {d : Clk} {i : Int} (h : i ≠ d.own) : d.cnt i = look d.hs d.cn i d.len := by unfold Clk.cnt; rw [if_neg h]

set_option maxRecDepth 100000 in
set_option maxHeartbeats 1000000 in
theorem atMost_any (hc hd : Option Addr) (c d : Clk) (kac kad : Option Addr) (kcc kcd : Nat) (w : World) (lc : c.len ≤ 131072) (ld : d.len ≤ 131072) (knc : KN w kac c.len c.hs c.cn) (knd : KN w kad d.len d.hs d.cn)
    (ascc : ∀ j, j + 1 < c.len → c.hs j < c.hs (j + 1)) (ascd : ∀ j, j + 1 < d.len → d.hs j < d.hs (j + 1)) (pos : ∀ j, j < c.len → 0 < c.cn j) :
    Calls Try.prog 33 #[.agg #[.pointer hc, .int .u32 c.own, .int .u32 c.n, .slice kac c.len kcc], .agg #[.pointer hd, .int .u32 d.own, .int .u32 d.n, .slice kad d.len kcd]] w fun e w' =>
      e = .returned (.bool (mostB c d)) ∧ Below w.heap.size w w' := by
  have KC : Hid (KN w kac c.len c.hs c.cn) := knc
  have KD : Hid (KN w kad d.len d.hs d.cn) := knd
  have AC : Hid (∀ j, j + 1 < c.len → c.hs j < c.hs (j + 1)) := ascc
  have AD : Hid (∀ j, j + 1 < d.len → d.hs j < d.hs (j + 1)) := ascd
  have PC : Hid (∀ j, j < c.len → 0 < c.cn j) := pos
  clear knc knd ascc ascd pos
  go_enter Try.func33, Try.ntmps33
  go_wp2
  obtain ⟨W, hW⟩ : ∃ W, W = (w.alloc (.cells #[.pointer hc, .int .u32 c.own, .int .u32 c.n, .slice kac c.len kcc] 71)).alloc (.cells #[.pointer hd, .int .u32 d.own, .int .u32 d.n, .slice kad d.len kcd] 71) := ⟨_, rfl⟩
  rw [← hW]
  have BW : Hid (Below w.heap.size w W) := by rw [hW]; exact ((Below.refl _ _).alloc (Nat.le_refl _) _).alloc (by simp) _
  have f1 : W.cell? ⟨w.heap.size, 1, none⟩ = some (.int .u32 c.own) := by rw [hW, cellA (by simp), World.cell?_alloc_new]; rfl
  have f2 : W.cell? ⟨w.heap.size, 2, none⟩ = some (.int .u32 c.n) := by rw [hW, cellA (by simp), World.cell?_alloc_new]; rfl
  have f3 : W.cell? ⟨w.heap.size, 3, none⟩ = some (.slice kac c.len kcc) := by rw [hW, cellA (by simp), World.cell?_alloc_new]; rfl
  have g0 : W.cell? ⟨w.heap.size + 1, 0, none⟩ = some (.pointer hd) := by rw [hW, World.cell?_alloc_at _ _ _ _ (by simp)]; rfl
  have g1 : W.cell? ⟨w.heap.size + 1, 1, none⟩ = some (.int .u32 d.own) := by rw [hW, World.cell?_alloc_at _ _ _ _ (by simp)]; rfl
  have g2 : W.cell? ⟨w.heap.size + 1, 2, none⟩ = some (.int .u32 d.n) := by rw [hW, World.cell?_alloc_at _ _ _ _ (by simp)]; rfl
  have g3 : W.cell? ⟨w.heap.size + 1, 3, none⟩ = some (.slice kad d.len kcd) := by rw [hW, World.cell?_alloc_at _ _ _ _ (by simp)]; rfl
  have hsz : w.heap.size + 1 < W.heap.size := by rw [hW]; simp
  clear hW
  have cC : ∀ dd os, Calls Try.prog 41 #[.agg #[.pointer hd, .int .u32 d.own, .int .u32 d.n, .slice kad d.len kcd], .int .u32 c.own] (grow (redrawn W dd) os) fun e w'' => e = .returned (.int .u32 (d.cnt c.own)) ∧ ∃ p : Regrown, w'' = grow (redrawn W p.d) p.os :=
    fun dd os => Calls.regrown_of (count_any hd d kad kcd c.own _ ld ((KD.out.below BW.out).below (below_regrown W dd os)) AD.out)
  have CC : Hid (∀ dd os, Calls Try.prog 41 #[.agg #[.pointer hd, .int .u32 d.own, .int .u32 d.n, .slice kad d.len kcd], .int .u32 c.own] (grow (redrawn W dd) os) fun e w'' => e = .returned (.int .u32 (d.cnt c.own)) ∧ ∃ p : Regrown, w'' = grow (redrawn W p.d) p.os) := cC
  clear cC
  have a1 := fun dd os => cell_regrown f1 dd os
  have a2 := fun dd os => cell_regrown f2 dd os
  have b0 := fun dd os => cell_regrown g0 dd os
  have b1 := fun dd os => cell_regrown g1 dd os
  have b2 := fun dd os => cell_regrown g2 dd os
  have b3 := fun dd os => cell_regrown g3 dd os
  refine wp_region_quiet_below (by kernel_rfl) (by kernel_rfl) ?_
  repeat (quiet_step (exact CC.out _ _))
  refine wpQuiet_nil ?_
  intro _ hw'
  obtain ⟨⟨dq, osq⟩, hw''⟩ := hw'
  rw [hw'']
  clear hw'' a1 a2 b0 b1 b2 b3 CC
  have B2' := below_regrown W dq osq
  generalize grow (redrawn W dq) osq = W2 at *
  have BW2 : Hid (Below w.heap.size w W2) := BW.out.trans (B2'.mono BW.out.size)
  rw [← B2'.cell (p := ⟨w.heap.size, 3, none⟩) (show w.heap.size < _ by omega)] at f3
  rw [← B2'.cell (p := ⟨w.heap.size + 1, 1, none⟩) hsz] at g1
  rw [← B2'.cell (p := ⟨w.heap.size + 1, 2, none⟩) hsz] at g2
  rw [← B2'.cell (p := ⟨w.heap.size + 1, 3, none⟩) hsz] at g3
  have hsz2 : w.heap.size + 1 < W2.heap.size := Nat.lt_of_lt_of_le hsz B2'.size
  clear f1 f2 g0 hsz B2' BW
  by_cases hfirst : c.n ≤ d.cnt c.own
  · have hq0 : ¬ d.cnt c.own < c.n := by omega
    have HMB : Hid (mostB c d = mostK c d c.len) := by show (decide _ && _) = _; simp [hfirst]
    clear hfirst
    go_wp2
    have F3 : Hid (W2.cell? ⟨w.heap.size, 3, none⟩ = some (.slice kac c.len kcc)) := f3
    have G1 : Hid (W2.cell? ⟨w.heap.size + 1, 1, none⟩ = some (.int .u32 d.own)) := g1
    have G2 : Hid (W2.cell? ⟨w.heap.size + 1, 2, none⟩ = some (.int .u32 d.n)) := g2
    have G3 : Hid (W2.cell? ⟨w.heap.size + 1, 3, none⟩ = some (.slice kad d.len kcd)) := g3
    clear f3 g1 g2 g3 hq0
    go_loopg [5, 18] c.len (fun kx s5 s18 wr => ∃ j k : Nat, j ≤ c.len ∧ s18 = .int .i64 j ∧ k ≤ d.len ∧ s5 = .int .i64 k ∧ c.len - j ≤ kx ∧ Hid (Below W2.heap.size W2 wr) ∧ Hid (mostK c d j = true) ∧ Hid (∀ t, t < k → j < c.len → d.hs t < c.hs j))
    case atStart => exact ⟨0, 0, Nat.zero_le _, rfl, Nat.zero_le _, rfl, by omega, Below.refl _ _, (rfl : mostK c d 0 = true), (fun t ht => by omega : ∀ t, t < 0 → 0 < c.len → d.hs t < c.hs 0)⟩
    case round =>
      obtain ⟨j, k, hj, rfl, hk, rfl, hgj, hb, hMK, hSK⟩ := hrel
      by_cases hlt : j < c.len
      · rcases KC.out with e0 | ⟨bb, o0, ha0, hb0, hc0⟩
        · omega
        have BT : Hid (Below w.heap.size w wr) := BW2.out.trans (hb.out.mono BW2.out.size)
        obtain ⟨d0, d1⟩ := hc0 j hlt
        rw [← BT.out.cell hb0] at d0 d1
        have hbb : bb < wr.heap.size := Nat.lt_of_lt_of_le hb0 BT.out.size
        have g1 : wr.cell? ⟨w.heap.size + 1, 1, none⟩ = some (.int .u32 d.own) := by rw [hb.out.cell hsz2]; exact G1.out
        have g2 : wr.cell? ⟨w.heap.size + 1, 2, none⟩ = some (.int .u32 d.n) := by rw [hb.out.cell hsz2]; exact G2.out
        have g3 : wr.cell? ⟨w.heap.size + 1, 3, none⟩ = some (.slice kad d.len kcd) := by rw [hb.out.cell hsz2]; exact G3.out
        have hsz3 : w.heap.size + 1 < wr.heap.size := Nat.lt_of_lt_of_le hsz2 hb.out.size
        have hpos := PC.out j hlt
        clear hc0
        subst ha0
        have HSN : Hid (∀ k', (∀ t, t < k' → d.hs t < c.hs j) → (∀ t, t < k' → j + 1 < c.len → d.hs t < c.hs (j + 1))) := fun k' h t ht hj1 => by
          have := h t ht; have := AC.out j hj1; omega
        cases hq : (c.hs j == d.own) with
        | true =>
          have hcn : Hid (d.cnt (c.hs j) = d.n) := cnt_own (by simpa using hq)
          by_cases hle : c.cn j ≤ d.n
          · have hle' : ¬ d.n < c.cn j := by omega
            have hN : Hid (mostK c d (j + 1) = true) := mostK_next hMK.out (by rw [hcn.out]; exact hle)
            clear hle
            go_wp2
            go_roundg (c.len - (j + 1))
            case measure => omega
            case rel => exact ⟨j + 1, k, by omega, by go_num, hk, rfl, Nat.le_refl _, hb.out.alloc hb.out.size _, hN, HSN.out k (fun t ht => hSK.out t ht hlt)⟩
          · have hle' : d.n < c.cn j := by omega
            have hF : Hid (mostB c d = false) := mostB_no hlt (by rw [hcn.out]; exact hle)
            clear hle
            go_wp2
            go_ret
            exact ⟨ret_bool hF.out.symm, BT.out.alloc BT.out.size _⟩
        | false =>
          have hcn : Hid (d.cnt (c.hs j) = look d.hs d.cn (c.hs j) d.len) := cnt_other (by simpa using hq)
          go_wp2
          obtain ⟨W3, hW3⟩ : ∃ W3, W3 = wr.alloc (.cells #[.int .u32 (c.hs j), .int .u32 (c.cn j)] 76) := ⟨_, rfl⟩
          rw [← hW3]
          have B3 : Hid (Below wr.heap.size wr W3) := by rw [hW3]; exact (Below.refl _ _).alloc (Nat.le_refl _) _
          have e0 : W3.cell? ⟨wr.heap.size, 0, none⟩ = some (.int .u32 (c.hs j)) := by rw [hW3, World.cell?_alloc_new]; rfl
          have e1 : W3.cell? ⟨wr.heap.size, 1, none⟩ = some (.int .u32 (c.cn j)) := by rw [hW3, World.cell?_alloc_new]; rfl
          rw [← B3.out.cell (p := ⟨w.heap.size + 1, 3, none⟩) hsz3] at g3
          clear hW3 d0 d1 g1 g2
          obtain ⟨wo, rfl⟩ : ∃ wo : World, wo = wr := ⟨_, rfl⟩
          have BT3 : Hid (Below w.heap.size w W3) := BT.out.trans (B3.out.mono BT.out.size)
          go_loopg [5] d.len (fun kx s5 wr => ∃ k : Nat, k ≤ d.len ∧ s5 = .int .i64 k ∧ d.len - k ≤ kx ∧ Hid (∀ t, t < k → d.hs t < c.hs j) ∧ ∃ m, wr = W3.drewN m)
          case atStart => exact ⟨k, hk, rfl, by omega, (fun t ht => hSK.out t ht hlt : ∀ t, t < k → d.hs t < c.hs j), 0, rfl⟩
          case round =>
            obtain ⟨k2, hk2, rfl, hg2, hS2, m, rfl⟩ := hrel
            have BZ : Hid (∀ q, Below W2.heap.size W2 (W3.drewN q)) := fun q => below_drewN (hb.out.trans (B3.out.mono hb.out.size)) q
            have BX : Hid (∀ q, Below w.heap.size w (W3.drewN q)) := fun q => below_drewN BT3.out q
            by_cases hk3 : k2 < d.len
            · rcases KD.out with e2 | ⟨bd, od, had, hbd, hcd⟩
              · omega
              obtain ⟨p0, p1⟩ := hcd k2 hk3
              rw [← BT3.out.cell hbd] at p0 p1
              clear hcd
              have hk4 : (k2 : Int) < (d.len : Int) := by omega
              have hk5 : ((k2 : Int) == (d.len : Int)) = false := beq_eq_false_iff_ne.2 (by omega)
              subst had
              by_cases hq2 : d.hs k2 < c.hs j
              · have hS3 : Hid (∀ t, t < k2 + 1 → d.hs t < c.hs j) := by
                  intro t ht
                  by_cases e : t = k2
                  · subst e; exact hq2
                  · exact hS2.out t (by omega)
                go_wp2
                go_quiet (fail)
                go_wp2
                go_roundg (d.len - (k2 + 1))
                case measure => omega
                case rel => exact ⟨k2 + 1, by omega, by go_num, Nat.le_refl _, hS3, by first | exact ⟨_, rfl⟩ | (simp only [World.drewN_drewN]; exact ⟨_, rfl⟩)⟩
              · have hSp : Span d.hs (c.hs j) d.len k2 k2 := ⟨hS2.out, fun t ht hn => by
                  rcases Nat.eq_or_lt_of_le ht with e | e
                  · subst e; exact hq2
                  · have := asc_lt AD.out e hn; omega⟩
                have HLk := hSp.look (cn := d.cn) AD.out
                clear hSp
                cases hq3 : (d.hs k2 != c.hs j) with
                | true =>
                  have hne : d.hs k2 ≠ c.hs j := by simpa using hq3
                  have hF : Hid (mostB c d = false) := mostB_no hlt (by rw [hcn.out, HLk, if_neg (by rintro ⟨-, h⟩; exact hne h)]; omega)
                  clear HLk hne
                  go_wp2
                  go_quiet (fail)
                  go_wp2
                  go_quiet (fail)
                  go_wp2
                  go_ret
                  exact ⟨ret_bool hF.out.symm, by first | exact BX.out _ | (simp only [World.drewN_drewN]; exact BX.out _)⟩
                | false =>
                  have heq : d.hs k2 = c.hs j := by simpa using hq3
                  have hL2 : Hid (d.cnt (c.hs j) = d.cn k2) := by rw [hcn.out, HLk, if_pos ⟨hk3, heq⟩]; rfl
                  clear HLk heq
                  by_cases hq4 : c.cn j ≤ d.cn k2
                  · have hq5 : ¬ d.cn k2 < c.cn j := by omega
                    have hN : Hid (mostK c d (j + 1) = true) := mostK_next hMK.out (by rw [hL2.out]; exact hq4)
                    clear hq4
                    go_wp2
                    go_quiet (fail)
                    go_wp2
                    go_quiet (fail)
                    go_wp2
                    go_roundg (c.len - (j + 1))
                    case measure => omega
                    case rel => exact ⟨j + 1, k2, by omega, by go_num, hk2, rfl, Nat.le_refl _, by first | exact BZ.out _ | (simp only [World.drewN_drewN]; exact BZ.out _), hN, HSN.out k2 hS2.out⟩
                  · have hq5 : d.cn k2 < c.cn j := by omega
                    have hF : Hid (mostB c d = false) := mostB_no hlt (by rw [hL2.out]; exact hq4)
                    clear hq4
                    go_wp2
                    go_quiet (fail)
                    go_wp2
                    go_quiet (fail)
                    go_wp2
                    go_ret
                    exact ⟨ret_bool hF.out.symm, by first | exact BX.out _ | (simp only [World.drewN_drewN]; exact BX.out _)⟩
            · have hk4 : decide ((k2 : Int) < (d.len : Int)) = false := by simp; omega
              obtain rfl : k2 = d.len := by omega
              have hSp : Span d.hs (c.hs j) d.len d.len d.len := ⟨hS2.out, fun t ht hn => by omega⟩
              have hF : Hid (mostB c d = false) := mostB_no hlt (by rw [hcn.out, hSp.look (cn := d.cn) AD.out, if_neg (by rintro ⟨h, -⟩; omega)]; omega)
              clear hSp
              go_wp2
              go_quiet (fail)
              go_wp2
              go_quiet (fail)
              go_wp2
              go_ret
              exact ⟨ret_bool hF.out.symm, by first | exact BX.out _ | (simp only [World.drewN_drewN]; exact BX.out _)⟩
      · obtain rfl : j = c.len := by omega
        have hF : Hid (mostB c d = true) := by rw [HMB.out, hMK.out]; rfl
        go_wp2
        go_ret
        exact ⟨ret_bool hF.out.symm, BW2.out.trans (hb.out.mono BW2.out.size)⟩
  · have hq0 : d.cnt c.own < c.n := by omega
    have hF : Hid (mostB c d = false) := by show (decide _ && _) = _; simp [hfirst]
    clear hfirst
    go_wp2
    go_ret
    exact ⟨ret_bool hF.out.symm, BW2.out⟩

end Go.Proofs.Qxb6609005a
