import Derived.Test.Qxb6609005aA8
namespace Go.Proofs.Qxb6609005a
open Go.RowKit Go.WideMaps Go.Maps Go.Sort
set_option linter.unusedSimpArgs false
set_option linter.unusedVariables false
set_option linter.unusedSectionVars false

/-- found's cells: M pairs as they came, then the pairs of x with d -/
def prow (g : Log) (pre : Nat → Value) (M : Nat) (x : Nat) (d : Array Nat) (t : Nat) : Value :=
  if t < M * 2 then pre t else if (t - M * 2) % 2 = 0 then g.pt x else g.pt d[(t - M * 2) / 2]!

/-- what the pairs' sort keeps -/
structure PairInv (g : Log) (w0 : World) (fb sz : Nat) (pre : Nat → Value) (M x n : Nat) (W : World) (d : Array Nat) : Prop where
  els : Else fb w0 W
  size : d.size = n
  own : Own W fb ((M + n) * 2) (prow g pre M x d)
  ok : ∀ i, i < n → d[i]! < g.m ∧ g.rv d[i]! = true
  inb : fb < w0.heap.size
  blk : ∃ cur, W.heap[fb]? = some (.cells cur 53 (0, 0)) ∧ cur.size = sz

theorem blk_set {W : World} {fb sz : Nat} (h : ∃ cur, W.heap[fb]? = some (.cells cur 53 (0, 0)) ∧ cur.size = sz) (i : Nat) (v : Value) : ∃ cur, (W.setCell ⟨fb, i, none⟩ v).heap[fb]? = some (.cells cur 53 (0, 0)) ∧ cur.size = sz := by
  obtain ⟨cur, h1, h2⟩ := h
  exact ⟨_, heap_setCell_same W fb i cur 53 v h1, by simpa using h2⟩

theorem PairInv.grow {g : Log} {w0 W W' : World} {fb sz : Nat} {pre : Nat → Value} {M x n : Nat} {d : Array Nat} (h : PairInv g w0 fb sz pre M x n W d) (k : Below w0.heap.size W W') : PairInv g w0 fb sz pre M x n W' d :=
  ⟨⟨Nat.le_trans h.els.size k.size, fun b hb hne => by rw [k.block b hb]; exact h.els.block b hb hne, by rw [k.os]; exact h.els.os, by rw [k.tape]; exact h.els.tape, by rw [k.output]; exact h.els.output⟩, h.size,
    ⟨Nat.lt_of_lt_of_le h.own.lt k.size, fun i hi => by rw [k.cell h.inb]; exact h.own.cell i hi, fun i => by rw [k.frozen h.inb]; exact h.own.thaw i⟩, h.ok, h.inb, by rw [k.block fb h.inb]; exact h.blk⟩

theorem pinfo53 : Try.prog.info? 53 = some Try.t53 := by kernel_rfl
theorem pinfo48 : Try.prog.info? 48 = some Try.t48 := by kernel_rfl

theorem prow_early (g : Log) (pre : Nat → Value) (M x : Nat) (d : Array Nat) (i : Nat) : prow g pre M x d (M * 2 + i * 2) = g.pt x := by
  unfold prow
  rw [if_neg (by omega), if_pos (by omega)]
theorem prow_late (g : Log) (pre : Nat → Value) (M x : Nat) (d : Array Nat) (i : Nat) : prow g pre M x d (M * 2 + i * 2 + 1) = g.pt d[i]! := by
  unfold prow
  rw [if_neg (by omega), if_neg (by omega), show (M * 2 + i * 2 + 1 - M * 2) / 2 = i by omega]

theorem drewN_below (w : World) (k : Nat) : Below w.heap.size w (w.drewN k) := ⟨rfl, rfl, rfl, Nat.le_refl _, fun _ _ => rfl⟩

set_option maxHeartbeats 1000000 in
theorem pairs_sorter (g : Log) (wb w0 : World) (pc fb sz n cap M x : Nat) (pre : Nat → Value) (LB : LogAt wb g) (hb : Below wb.heap.size wb w0) (hfb : wb.heap.size ≤ fb) (hn2 : 2 ≤ n) (hn : n < 65536)
    (hp : w0.cell? ⟨pc, 0, none⟩ = some (.slice (some ⟨fb, M * 2, none⟩) n cap)) (h1 : pc < w0.heap.size ∧ pc ≠ fb) :
    Sorter (PairInv g w0 fb sz pre M x n) g.key 39 #[.pointer (some ⟨pc, 0, none⟩)] 59 #[.slice (some ⟨fb, M * 2, none⟩) n cap, typeHandle Try.prog 53] fb n where
  small := by omega
  size := fun w d h => h.size
  inb := fun w d h => h.own.lt
  grow := fun w w' d h k => h.grow (k.mono h.els.size)
  far := ⟨w0.heap.size, fun w d h => h.els.size, fun w w' d h k => h.grow k⟩
  enter := enters_of Try.func39 (by kernel_rfl) rfl
  less := fun w d h i j hi hj => by
    refine (less_pairs g pc fb (M * 2) n cap d w (LB.below (h.els.below hb hfb)) ?_ (fun i hi => ⟨?_, h.ok i hi⟩) hn i j hi hj).mono ?_
    · rw [h.els.cell h1.1 h1.2]; exact hp
    · rw [h.own.cell _ (by omega), prow_late]; rfl
    · rintro e w' ⟨he, k, rfl⟩
      exact ⟨he, drewN_below w k⟩
  swap := fun w d h i j hi hj => by
    have hs53 : Try.t53.size = 2 := by kernel_rfl
    have hr := Lib.run_swap_cells (P := Try.prog) false 53 Try.t53 pinfo53 (fun w => by kernel_rfl) fb (M * 2) n cap i j hi hj [g.pt x, g.pt d[i]!] [g.pt x, g.pt d[j]!] (by rw [hs53]; rfl) (by rw [hs53]; rfl) (fun v hv => by simp at hv; rcases hv with rfl | rfl <;> rfl) (fun v hv => by simp at hv; rcases hv with rfl | rfl <;> rfl) w
      (fun k v hk => by
        rw [hs53]
        match k, hk with
        | 0, hk => simp at hk; subst hk; rw [Nat.add_zero, h.own.cell _ (by omega), prow_early]
        | 1, hk => simp at hk; subst hk; rw [h.own.cell _ (by omega), prow_late]
        | k + 2, hk => simp at hk)
      (fun k v hk => by
        rw [hs53]
        match k, hk with
        | 0, hk => simp at hk; subst hk; rw [Nat.add_zero, h.own.cell _ (by omega), prow_early]
        | 1, hk => simp at hk; subst hk; rw [h.own.cell _ (by omega), prow_late]
        | k + 2, hk => simp at hk)
      (fun k _ => h.own.thaw _) (fun k _ => h.own.thaw _)
    rw [hs53] at hr
    simp only [World.setCells] at hr
    refine ⟨((((w.setCell ⟨fb, M * 2 + i * 2, none⟩ (g.pt x)).setCell ⟨fb, M * 2 + i * 2 + 1, none⟩ (g.pt d[j]!)).setCell ⟨fb, M * 2 + j * 2, none⟩ (g.pt x)).setCell ⟨fb, M * 2 + j * 2 + 1, none⟩ (g.pt d[i]!)), ?_, ?_⟩
    rotate_left
    · have E : Else fb w ((((w.setCell ⟨fb, M * 2 + i * 2, none⟩ (g.pt x)).setCell ⟨fb, M * 2 + i * 2 + 1, none⟩ (g.pt d[j]!)).setCell ⟨fb, M * 2 + j * 2, none⟩ (g.pt x)).setCell ⟨fb, M * 2 + j * 2 + 1, none⟩ (g.pt d[i]!)) :=
        ((((Else.refl fb w).setCell _ _).setCell _ _).setCell _ _).setCell _ _
      have hd := h.size
      refine ⟨⟨h.els.trans E, by rw [Sort.size_swp]; exact hd, ?_, ?_, h.inb, blk_set (blk_set (blk_set (blk_set h.blk _ _) _ _) _ _) _ _⟩, E⟩
      · refine ((((h.own.set (M * 2 + i * 2) (by omega) (g.pt x)).set (M * 2 + i * 2 + 1) (by omega) (g.pt d[j]!)).set (M * 2 + j * 2) (by omega) (g.pt x)).set (M * 2 + j * 2 + 1) (by omega) (g.pt d[i]!)).congr fun t ht => ?_
        by_cases e1 : t = M * 2 + j * 2 + 1
        · subst e1
          rw [if_pos rfl, prow_late, swp_get' d (by omega) (by omega), if_pos rfl]
        · rw [if_neg e1]
          by_cases e2 : t = M * 2 + j * 2
          · subst e2; rw [if_pos rfl, prow_early]
          · rw [if_neg e2]
            by_cases e3 : t = M * 2 + i * 2 + 1
            · subst e3
              rw [if_pos rfl, prow_late, swp_get' d (by omega) (by omega), if_neg (by omega), if_pos rfl]
            · rw [if_neg e3]
              by_cases e4 : t = M * 2 + i * 2
              · subst e4; rw [if_pos rfl, prow_early]
              · rw [if_neg e4]
                unfold prow
                by_cases e5 : t < M * 2
                · rw [if_pos e5, if_pos e5]
                · rw [if_neg e5, if_neg e5]
                  by_cases e6 : (t - M * 2) % 2 = 0
                  · rw [if_pos e6, if_pos e6]
                  · rw [if_neg e6, if_neg e6, swp_get' d (by omega) (by omega), if_neg (by omega), if_neg (by omega)]
      · intro k hk
        rw [swp_get' d (by omega) (by omega)]
        split
        · exact h.ok i hi
        · split
          · exact h.ok j hj
          · exact h.ok k hk
    · rw [run_callFunc_extern Try.func59 (by kernel_rfl) (by kernel_rfl) (by kernel_rfl) (e := Extern.ReflectliteSwapper.swap false) (by kernel_rfl)]
      show ((Extern.ReflectliteSwapper.swap false #[.int .i64 i, .int .i64 j, .slice (some ⟨fb, M * 2, none⟩) n cap, typeHandle Try.prog 53]).run Try.prog w).andThen _ = _
      rw [hr]
      rfl

theorem swK_pair {n : Nat} (h : 2 ≤ n) : Lib.swapperK n Try.t53 25 = 9 := by
  have h1 : Try.t53.hasPointers = true := by kernel_rfl
  have h2 : Try.t53.bytes = 16 := by kernel_rfl
  unfold Lib.swapperK
  rw [if_neg (by simp; omega), if_neg (by simp; omega), if_neg (by simp [h1, h2]), if_neg (by simp), if_pos (by simp [h1])]

theorem boundV_pair {n c : Nat} (h : 2 ≤ n) (p : Option Addr) : boundV 53 Try.t53 25 p n c = #[.slice p n c, typeHandle Try.prog 53] := by
  unfold boundV
  rw [swK_pair h, if_neg (by omega)]

/-- the pairs' sort at two pairs or more -/
theorem pairs_sort (g : Log) (wb w0 : World) (pc fb sz n cap M x : Nat) (pre : Nat → Value) (D : Array Nat) (LB : LogAt wb g) (hb : Below wb.heap.size wb w0) (hfb : wb.heap.size ≤ fb) (hn2 : 2 ≤ n) (hn : n < 65536)
    (hp : w0.cell? ⟨pc, 0, none⟩ = some (.slice (some ⟨fb, M * 2, none⟩) n cap)) (h1 : pc < w0.heap.size ∧ pc ≠ fb) (hD : PairInv g w0 fb sz pre M x n w0 D) :
    Calls Try.prog 38 #[.iface 48 (.slice (some ⟨fb, M * 2, none⟩) n cap), .func (.func 39) #[] #[.pointer (some ⟨pc, 0, none⟩)]] w0 fun e w' => e = .returned (.tuple #[]) ∧ ∃ D', PairInv g w0 fb sz pre M x n w' D' ∧ Sort.PermIn 0 n D D' ∧ Sort.SortedIn g.key 0 n D' := by
  have S := pairs_sorter g wb w0 pc fb sz n cap M x pre LB hb hfb hn2 hn hp h1
  rw [← boundV_pair hn2] at S
  refine (slice_sorted 48 53 Try.t48 Try.t53 pinfo48 (by kernel_rfl) (by kernel_rfl) pinfo53 25 (fun _ => by kernel_rfl) (some ⟨fb, M * 2, none⟩) cap hn (by rw [swK_pair hn2]; kernel_rfl) g.key_swo S D w0 hD).mono ?_
  rintro e w' ⟨he, D', hd, hp, hs⟩
  exact ⟨he, D', hd.1, hp, hs⟩

/-- .. at none or one -/
theorem pairs_tiny (p : Option Addr) (n cap : Nat) (h1 : n ≤ 1) (lf : Fn) (la lb : Array Value) (w : World) :
    Calls Try.prog 38 #[.iface 48 (.slice p n cap), .func lf la lb] w fun e w' => e = .returned (.tuple #[]) ∧ Below w.heap.size w w' := by
  by_cases e : n = 0
  · subst e
    exact slice_tiny 48 53 Try.t48 Try.t53 pinfo48 (by kernel_rfl) (by kernel_rfl) pinfo53 25 (fun _ => by kernel_rfl) p 0 cap (by omega) 51 (by kernel_rfl) _ _ _ w
  · obtain rfl : n = 1 := by omega
    exact slice_tiny 48 53 Try.t48 Try.t53 pinfo48 (by kernel_rfl) (by kernel_rfl) pinfo53 25 (fun _ => by kernel_rfl) p 1 cap (by omega) 52 (by kernel_rfl) _ _ _ w

end Go.Proofs.Qxb6609005a
