import Derived.Test.Qxb6613227aW3
namespace Go.Proofs.Qxb6613227a
open Go.RowKit
set_option linter.unusedSimpArgs false
set_option linter.unusedVariables false

theorem info30 : (Try.prog.info? 30).map (fun i => (i.zero, i.size, i.bytes)) = some (some (.pointer none), 1, 8) := by kernel_rfl

/-- the pool while it is laid: its row at g, its first k aspects behind it -/
structure Laying (w0 w : World) (g n k : Nat) (C : Nat → Bool) : Prop where
  fill : Fill w g n (fun i => pv (g + 1) i) k
  pool : Pool w (g + 1) k C
  size : w.heap.size = g + 1 + k
  below : Below w0.heap.size w0 w

theorem frozenA {w : World} {o : Obj} {b i : Nat} (h : b < w.heap.size) : (w.alloc o).frozen? ⟨b, i, none⟩ = w.frozen? ⟨b, i, none⟩ := by
  have := Below.heap_alloc w o b h
  unfold World.frozen?
  simp only [this]

theorem laying_step {w0 w : World} {g n k : Nat} {C : Nat → Bool} (h : Laying w0 w g n k C) (hk : k < n) (m : Nat) (cs : Array Value) (hc : cs[10]? = some (.bool (C k))) {t : TypeId} (hg : w0.heap.size ≤ g) :
    Laying w0 (((w.drewN m).alloc (.cells cs t)).setCell ⟨g, k, none⟩ (.pointer (some ⟨g + 1 + k, 0, none⟩))) g n (k + 1) C := by
  have hs : (w.drewN m).heap.size = g + 1 + k := h.size
  refine ⟨?_, fun i hi => ?_, by have := h.size; simp; omega, ?_⟩
  · exact ((h.fill.drewN m).alloc (.cells cs t)).set hk
  · have hne : g + 1 + i ≠ g := by omega
    by_cases e : i = k
    · subst e
      refine ⟨cs, t, ?_, hc⟩
      rw [Below.heap_setCell _ _ _ _ hne]
      show ((w.drewN m).heap.push _)[g + 1 + i]? = _
      rw [← hs]
      simp
    · obtain ⟨cs', t', h1, h2⟩ := h.pool i (by omega)
      refine ⟨cs', t', ?_, h2⟩
      rw [Below.heap_setCell _ _ _ _ hne, Below.heap_alloc _ _ _ (by omega)]
      exact h1
  · exact ((below_drewN h.below m).alloc (by rw [hs]; omega) _).setCell hg _

set_option maxHeartbeats 400000 in
theorem pool_any (N : Nat) (a : Option Addr) (n c : Nat) (cf : Nat → Bool) (w : World) (hN : N ≤ 4096) (hn : n ≤ maxLen) (h0 : Rd w a n (fun i => .bool (cf i))) :
    Calls Try.prog 7 #[.int .i64 N, .slice a n c] w fun e w' => e = .returned (.slice (some ⟨w.heap.size, 0, none⟩) N N) ∧
      Own w' w.heap.size N (fun i => pv (w.heap.size + 1) i) ∧ Pool w' (w.heap.size + 1) N (cntB n cf) ∧ Below w.heap.size w w' := by
  have hr := run_mk1 (P := Try.prog) 26 30 (.pointer none) 8 Try.underlying26 info30 rfl N (by omega) (by omega) w
  have H0 : Hid (Rd w a n (fun i => .bool (cf i))) := h0
  have HN : Hid (n ≤ maxLen) := hn
  have HS : Hid (Laying w (w.alloc (.cells (madeCells #[.pointer none] N) 30)) w.heap.size N 0 (cntB n cf)) :=
    ⟨Fill.made1 _ _ _ _ _, fun i hi => by omega, by simp, (Below.refl _ w).alloc (Nat.le_refl _) _⟩
  clear h0 hn
  go_enter Try.func7, Try.ntmps7
  go_wp2
  go_loopg [6] N (fun kx s wr => ∃ k : Nat, k ≤ N ∧ s = .int .i64 k ∧ N - k ≤ kx ∧ Hid (Laying w wr w.heap.size N k (cntB n cf)))
  case atStart => exact ⟨0, Nat.zero_le _, rfl, by omega, HS⟩
  case round =>
    obtain ⟨k, hk, rfl, hgh, hL⟩ := hrel
    by_cases hlt : k < N
    · obtain ⟨v, hv, hfz⟩ := fill_cell hL.out.fill k hlt
      have hsz := hL.out.size
      have hgl := hL.out.fill.lt
      have cC := counted_any a n c cf k wr HN.out (by omega) (H0.out.below hL.out.below)
      have HL : Hid (Laying w wr w.heap.size N k (cntB n cf)) := hL
      go_wp2_with fail
      refine cC.mono ?_
      rintro e w' ⟨rfl, m, rfl⟩
      have hcv : ∀ o, ((wr.drewN m).alloc o).cell? ⟨w.heap.size, k, none⟩ = some v := fun o => by rw [cellA (w := wr.drewN m) hgl]; exact hv
      have hff : ∀ o, ((wr.drewN m).alloc o).frozen? ⟨w.heap.size, k, none⟩ = false := fun o => by rw [frozenA (w := wr.drewN m) hgl]; exact hfz
      go_wp2
      go_roundg (N - (k + 1))
      case measure => omega
      case rel =>
        refine ⟨k + 1, by omega, by go_num, Nat.le_refl _, ?_⟩
        refine (laying_step HL.out hlt m _ ?_ (Nat.le_refl _) : Laying _ _ _ _ _ _)
        rfl
    · have : k = N := by omega
      subst this
      go_wp2
      go_ret
      exact ⟨rfl, hL.out.fill.own, hL.out.pool, hL.out.below⟩

set_option maxHeartbeats 400000 in
theorem pick_any (ap : Option Addr) (N cp G : Nat) (a : Option Addr) (n c : Nat) (f : Nat → Nat) (w : World) (hN : N ≤ 4096) (hn : n ≤ 4096) (hp : Rd w ap N (fun i => pv G i)) (h0 : Rd w a n (fun i => .int .i64 (f i : Int))) (hf : ∀ i, i < n → f i < N) :
    Calls Try.prog 9 #[.slice ap N cp, .slice a n c] w fun e w' => e = .returned (.slice (some ⟨w.heap.size, 0, none⟩) n n) ∧
      Own w' w.heap.size n (fun i => pv G (f i)) ∧ Below w.heap.size w w' := by
  have hr := run_mk1 (P := Try.prog) 26 30 (.pointer none) 8 Try.underlying26 info30 rfl n (by omega) (by omega) w
  have HP : Hid (Rd w ap N (fun i => pv G i)) := hp
  have H0 : Hid (Rd w a n (fun i => .int .i64 (f i : Int))) := h0
  have HF : Hid (∀ i, i < n → f i < N) := hf
  have HS : Hid (Fill (w.alloc (.cells (madeCells #[.pointer none] n) 30)) w.heap.size n (fun i => pv G (f i)) 0) := Fill.made1 _ _ _ _ _
  have HB : Hid (Below w.heap.size w (w.alloc (.cells (madeCells #[.pointer none] n) 30))) := (Below.refl _ w).alloc (Nat.le_refl _) _
  clear h0 hp hf
  go_enter Try.func9, Try.ntmps9
  go_wp2
  go_loopg [6] n (fun kx s wr => ∃ k : Nat, k ≤ n ∧ s = .int .i64 k ∧ n - k ≤ kx ∧ Hid (Fill wr w.heap.size n (fun i => pv G (f i)) k) ∧ Hid (Below w.heap.size w wr))
  case atStart => exact ⟨0, Nat.zero_le _, rfl, by omega, HS, HB⟩
  case round =>
    obtain ⟨k, hk, rfl, hgh, hL, hB⟩ := hrel
    by_cases hlt : k < n
    · obtain ⟨v, hv, hfz⟩ := fill_cell hL.out k hlt
      have hgl := hL.out.lt
      have hfk := HF.out k hlt
      rcases H0.out.below hB.out with e0 | ⟨b0, o0, ha0, hb0, hc0⟩
      · omega
      rcases HP.out.below hB.out with e0 | ⟨b1, o1, ha1, hb1, hc1⟩
      · omega
      have d0 : wr.cell? ⟨b0, o0 + k, none⟩ = some (.int .i64 (f k : Int)) := hc0 k hlt
      have d1 : wr.cell? ⟨b1, o1 + f k, none⟩ = some (.pointer (some ⟨G + f k, 0, none⟩)) := hc1 (f k) hfk
      subst ha0 ha1
      have HL : Hid (Fill wr w.heap.size n (fun i => pv G (f i)) k) := hL
      clear hc0 hc1
      go_wp2
      go_roundg (n - (k + 1))
      case measure => omega
      case rel =>
        refine ⟨k + 1, by omega, by go_num, Nat.le_refl _, HL.out.set hlt, ?_⟩
        exact (hB.out.setCell (p := ⟨w.heap.size, k, none⟩) (Nat.le_refl _) _)
    · have : k = n := by omega
      subst this
      go_wp2
      go_ret
      exact ⟨rfl, hL.out.own, hB.out⟩

end Go.Proofs.Qxb6613227a
