import Derived.Test.Qxb6608767aMem
namespace Go.Proofs.Qxb6608767a
open Go.RowKit
set_option linter.unusedSimpArgs false
set_option linter.unusedVariables false

theorem info39 : (Try.prog.info? 39).map (fun i => (i.zero, i.size, i.bytes)) = some (some (.agg #[.string ByteArray.empty, .int .i64 0]), 2, 24) := by kernel_rfl
theorem info41 : (Try.prog.info? 41).map (fun i => (i.zero, i.size, i.bytes)) = some (some (.int .u16 0), 1, 2) := by kernel_rfl
theorem info9 : (Try.prog.info? 9).map (fun i => (i.zero, i.size, i.bytes)) = some (some (.string ByteArray.empty), 1, 16) := by kernel_rfl
theorem info2 : (Try.prog.info? 2).map (fun i => (i.zero, i.size, i.bytes)) = some (some (.int .i64 0), 1, 8) := by kernel_rfl
theorem info29 : (Try.prog.info? 29).map (fun i => (i.zero, i.size, i.bytes)) = some (some (.int .u16 0), 1, 2) := by kernel_rfl
theorem info4 : (Try.prog.info? 4).map (fun i => (i.zero, i.size, i.bytes)) = some (some (.bool false), 1, 1) := by kernel_rfl

/-- the entries after k rounds -/
def Entries (w : World) (g n : Nat) (nm : Nat → ByteArray) (vl : Nat → Int) (k : Nat) : Prop :=
  ∃ f, Own w g (n * 2) f ∧ ∀ i, i < k → f (i * 2) = .string (nm i) ∧ f (i * 2 + 1) = .int .i64 (vl i)

theorem Entries.below {w w' : World} {B g n : Nat} {nm : Nat → ByteArray} {vl : Nat → Int} {k : Nat} (h : Entries w g n nm vl k) (hb : Below B w w') (hB : g < B) : Entries w' g n nm vl k := by
  obtain ⟨f, hf, hx⟩ := h
  exact ⟨f, hf.below hb hB, hx⟩

theorem Entries.set {w : World} {g n : Nat} {nm : Nat → ByteArray} {vl : Nat → Int} {k : Nat} (h : Entries w g n nm vl k) (hk : k < n) :
    Entries ((w.setCell ⟨g, k * 2, none⟩ (.string (nm k))).setCell ⟨g, k * 2 + 1, none⟩ (.int .i64 (vl k))) g n nm vl (k + 1) := by
  obtain ⟨f, hf, hx⟩ := h
  refine ⟨_, (hf.set (k * 2) (by omega) _).set (k * 2 + 1) (by omega) _, fun i hi => ?_⟩
  by_cases e : i = k
  · subst e; simp
  · obtain ⟨h1, h2⟩ := hx i (by omega)
    simp only [show i * 2 ≠ k * 2 + 1 by omega, show i * 2 ≠ k * 2 by omega, show i * 2 + 1 ≠ k * 2 + 1 by omega, show i * 2 + 1 ≠ k * 2 by omega, if_false]
    exact ⟨h1, h2⟩

set_option maxHeartbeats 400000 in
theorem newBlock_plain (a0 a1 : Option Addr) (c0 c1 n : Nat) (nm : Nat → ByteArray) (vl : Nat → Int) (w : World) (hn : n ≤ 4096)
    (h0 : Rd w a0 n (fun i => .string (nm i))) (h1 : Rd w a1 n (fun i => .int .i64 (vl i))) :
    Calls Try.prog 7 #[.slice a0 n c0, .slice a1 n c1, .slice none 0 0] w fun e w' => ∃ b g, e = .returned (.pointer (some ⟨b, 0, none⟩)) ∧ Plain w' b n nm vl g ∧ Below w.heap.size w w' := by
  have hmk := run_mk (P := Try.prog) 37 39 _ 2 24 Try.underlying37 info39 n (by omega) (by omega)
  have q24 : ∀ (w : World) (a : Option Addr) (n c n' c' : Nat), (binOp .neq 24 (.slice a n c) (.slice none n' c')).run Try.prog w = .ok (.bool (!a.isNone)) w := fun w a n c n' c' => run_neq_slice_nil_any w _ _ a n c n' c' Try.underlying24
  have H0 : Hid (Rd w a0 n (fun i => .string (nm i))) := h0
  have H1 : Hid (Rd w a1 n (fun i => .int .i64 (vl i))) := h1
  clear h0 h1
  go_enter Try.func7, Try.ntmps7
  go_wp2
  go_loopg [16] n (fun kx s wr => ∃ k : Nat, k ≤ n ∧ s = .int .i64 k ∧ n - k ≤ kx ∧ Hid (Below w.heap.size w wr) ∧ Hid (Entries wr w.heap.size n nm vl k))
  case atStart =>
    exact ⟨0, Nat.zero_le _, rfl, by omega, (Below.refl _ _).alloc (Nat.le_refl _) _, (⟨_, Own.made w _ _ _, fun i hi => by omega⟩ : Entries _ _ n nm vl 0)⟩
  case round =>
    obtain ⟨k, hk, rfl, hgh, hb, hE⟩ := hrel
    by_cases hlt : k < n
    · rcases H0.out with e0 | ⟨b0, o0, ha0, hb0, hc0⟩
      · omega
      rcases H1.out with e1 | ⟨b1, o1, ha1, hb1, hc1⟩
      · omega
      obtain ⟨f, hO, hf⟩ := hE.out
      have d0 : wr.cell? ⟨b0, o0 + k, none⟩ = some (.string (nm k)) := by rw [hb.out.cell hb0]; exact hc0 k hlt
      have d1 : wr.cell? ⟨b1, o1 + k, none⟩ = some (.int .i64 (vl k)) := by rw [hb.out.cell hb1]; exact hc1 k hlt
      have e0 := hO.cell (k * 2) (by omega)
      have e1 := hO.cell (k * 2 + 1) (by omega)
      have t0 := hO.thaw (k * 2)
      have t1 := hO.thaw (k * 2 + 1)
      clear hO hf hc0 hc1
      subst ha0 ha1
      go_wp2
      go_region
      go_wp2
      go_roundg (n - (k + 1))
      case measure => omega
      case rel =>
        refine ⟨k + 1, by omega, by go_num, Nat.le_refl _, ?_, ?_⟩
        · exact (((hb.out.setCell (Nat.le_refl _) _).setCell (Nat.le_refl _) _)).drew
        · exact (hE.out.set hlt).below (B := w.heap.size + 1) ((Below.refl _ _).drew) (by omega)
    · obtain rfl : k = n := by omega
      go_wp2
      go_ret
      obtain ⟨f, hO, hf⟩ := hE.out
      refine ⟨_, w.heap.size, rfl, ⟨by simp, by have := hO.lt; simp; omega, by simp, by simp, fun i hi => ?_, fun i hi => ?_⟩, hb.out.alloc hb.out.size _⟩
      · rw [cellA hO.lt, hO.cell _ (by omega), (hf i hi).1]
      · rw [cellA hO.lt, hO.cell _ (by omega), (hf i hi).2]

/-- the places after k rounds -/
def Places (w : World) (g n : Nat) (od : Nat → Int) (k : Nat) : Prop := ∃ f, Own w g n f ∧ ∀ i, i < k → f i = .int .u16 (od i)

theorem Places.set {w : World} {g n : Nat} {od : Nat → Int} {k : Nat} (h : Places w g n od k) (hk : k < n) : Places (w.setCell ⟨g, k, none⟩ (.int .u16 (od k))) g n od (k + 1) := by
  obtain ⟨f, hf, hx⟩ := h
  refine ⟨_, hf.set k hk _, fun i hi => ?_⟩
  by_cases e : i = k
  · subst e; simp
  · simp only [e, if_false]; exact hx i (by omega)

set_option maxHeartbeats 400000 in
theorem newBlock_ordered (a0 a1 : Option Addr) (b2 o2 c0 c1 c2 n : Nat) (nm : Nat → ByteArray) (vl : Nat → Int) (od : Nat → Int) (w : World) (hn : n ≤ 4096)
    (h0 : Rd w a0 n (fun i => .string (nm i))) (h1 : Rd w a1 n (fun i => .int .i64 (vl i))) (hb2 : b2 < w.heap.size) (h2 : ∀ i, i < n → w.cell? ⟨b2, o2 + i, none⟩ = some (.int .u16 (od i))) :
    Calls Try.prog 7 #[.slice a0 n c0, .slice a1 n c1, .slice (some ⟨b2, o2, none⟩) n c2] w fun e w' => ∃ b g go, e = .returned (.pointer (some ⟨b, 0, none⟩)) ∧ Ordered w' b n nm od g go ∧ Below w.heap.size w w' := by
  have hmk := run_mk (P := Try.prog) 37 39 _ 2 24 Try.underlying37 info39 n (by omega) (by omega)
  have hmk2 := run_mk (P := Try.prog) 40 41 _ 1 2 Try.underlying40 info41 n (by omega) (by omega)
  have q24 : ∀ (w : World) (a : Option Addr) (n c n' c' : Nat), (binOp .neq 24 (.slice a n c) (.slice none n' c')).run Try.prog w = .ok (.bool (!a.isNone)) w := fun w a n c n' c' => run_neq_slice_nil_any w _ _ a n c n' c' Try.underlying24
  have H0 : Hid (Rd w a0 n (fun i => .string (nm i))) := h0
  have H1 : Hid (Rd w a1 n (fun i => .int .i64 (vl i))) := h1
  have H2 : Hid (∀ i, i < n → w.cell? ⟨b2, o2 + i, none⟩ = some (.int .u16 (od i))) := h2
  clear h0 h1 h2
  go_enter Try.func7, Try.ntmps7
  go_wp2
  go_loopg [16] n (fun kx s wr => ∃ k : Nat, k ≤ n ∧ s = .int .i64 k ∧ n - k ≤ kx ∧ Hid (Below w.heap.size w wr) ∧ Hid (Entries wr w.heap.size n nm vl k))
  case atStart =>
    exact ⟨0, Nat.zero_le _, rfl, by omega, (Below.refl _ _).alloc (Nat.le_refl _) _, (⟨_, Own.made w _ _ _, fun i hi => by omega⟩ : Entries _ _ n nm vl 0)⟩
  case round =>
    obtain ⟨k, hk, rfl, hgh, hb, hE⟩ := hrel
    by_cases hlt : k < n
    · rcases H0.out with e0 | ⟨b0, o0, ha0, hb0, hc0⟩
      · omega
      rcases H1.out with e1 | ⟨b1, o1, ha1, hb1, hc1⟩
      · omega
      obtain ⟨f, hO, hf⟩ := hE.out
      have d0 : wr.cell? ⟨b0, o0 + k, none⟩ = some (.string (nm k)) := by rw [hb.out.cell hb0]; exact hc0 k hlt
      have d1 : wr.cell? ⟨b1, o1 + k, none⟩ = some (.int .i64 (vl k)) := by rw [hb.out.cell hb1]; exact hc1 k hlt
      have e0 := hO.cell (k * 2) (by omega)
      have e1 := hO.cell (k * 2 + 1) (by omega)
      have t0 := hO.thaw (k * 2)
      have t1 := hO.thaw (k * 2 + 1)
      clear hO hf hc0 hc1
      subst ha0 ha1
      go_wp2
      go_region
      go_wp2
      go_roundg (n - (k + 1))
      case measure => omega
      case rel =>
        refine ⟨k + 1, by omega, by go_num, Nat.le_refl _, ?_, ?_⟩
        · exact (((hb.out.setCell (Nat.le_refl _) _).setCell (Nat.le_refl _) _)).drew
        · exact (hE.out.set hlt).below (B := w.heap.size + 1) ((Below.refl _ _).drew) (by omega)
    · obtain ⟨wo, rfl⟩ : ∃ wo : World, wo = wr := ⟨_, rfl⟩
      obtain rfl : k = n := by omega
      go_wp2
      go_loopg [39] k (fun kx s wr => ∃ j : Nat, j ≤ k ∧ s = .int .i64 j ∧ k - j ≤ kx ∧ Hid (Below wo.heap.size wo wr) ∧ Hid (Places wr wo.heap.size k od j))
      case atStart =>
        refine ⟨0, Nat.zero_le _, rfl, by omega, (Below.refl _ _).alloc (Nat.le_refl _) _, ?_⟩
        have := Own.made wo #[Value.int .u16 0] (k * 1) 41
        rw [Nat.mul_one] at this
        exact (⟨_, this, fun i hi => by omega⟩ : Places _ _ k od 0)
      case round =>
        obtain ⟨j, hj, rfl, hgj, hbj, hP⟩ := hrel
        by_cases hlt2 : j < k
        · obtain ⟨f, hO, hf⟩ := hP.out
          have d0 : wr.cell? ⟨b2, o2 + j, none⟩ = some (.int .u16 (od j)) := by
            rw [hbj.out.cell (Nat.lt_of_lt_of_le hb2 hb.out.size), hb.out.cell hb2]; exact H2.out j hlt2
          have e0 := hO.cell j (by omega)
          have t0 := hO.thaw j
          clear hO hf
          go_wp2
          go_roundg (k - (j + 1))
          case measure => omega
          case rel =>
            refine ⟨j + 1, by omega, by go_num, Nat.le_refl _, ?_, ?_⟩
            · exact hbj.out.setCell (Nat.le_refl _) _
            · exact hP.out.set hlt2
        · obtain rfl : j = k := by omega
          go_wp2
          go_ret
          obtain ⟨f, hO, hf⟩ := hE.out
          obtain ⟨f2, hO2, hf2⟩ := hP.out
          have hO' := hO.below hbj.out hO.lt
          refine ⟨_, w.heap.size, wo.heap.size, rfl, ⟨by simp, by have := hO'.lt; simp; omega, by have := hO2.lt; simp; omega, by simp, by simp, fun i hi => ?_, fun i hi => ?_⟩, (hb.out.trans (hbj.out.mono hb.out.size)).alloc (Nat.le_trans hb.out.size hbj.out.size) _⟩
          · rw [cellA hO'.lt, hO'.cell _ (by omega), (hf i hi).1]
          · rw [cellA hO2.lt, hO2.cell _ (by omega), hf2 i hi]

end Go.Proofs.Qxb6608767a
