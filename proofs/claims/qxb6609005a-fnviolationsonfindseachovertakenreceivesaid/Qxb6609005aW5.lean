import Derived.Test.Qxb6609005aW4
namespace Go.Proofs.Qxb6609005a
open Go.RowKit Go.WideMaps Go.Maps
set_option linter.unusedSimpArgs false
set_option linter.unusedVariables false

theorem Own.congr {w : World} {g N : Nat} {f f' : Nat → Value} (h : Own w g N f) (e : ∀ i, i < N → f i = f' i) : Own w g N f' :=
  ⟨h.lt, fun i hi => by rw [h.cell i hi, e i hi], h.thaw⟩

set_option maxRecDepth 100000 in
set_option maxHeartbeats 1000000 in
theorem dense_zero (k : Nat) (host : ByteArray) (lam own nn : Int) (a : Option Addr) (len cap : Nat) (w : World) (hk : k ≤ 131072) :
    Calls Try.prog 29 #[.int .i64 k, .agg #[.string host, .int .u64 lam, .bool true, .int .u32 own, .int .u32 nn, .slice a len cap]] w fun e w' =>
      ∃ g, e = .returned (.slice (some ⟨g, 0, none⟩) k k) ∧ Own w' g k (fun i => .int .u32 (zeroClk.cnt i)) ∧ Below w.heap.size w w' := by
  have hmk := run_mk1 (P := Try.prog) 78 24 _ 4 Try.underlying78 info24 rfl k (by omega) (by omega)
  go_enter Try.func29, Try.ntmps29
  go_wp2
  go_ret
  refine ⟨_, rfl, ?_, ((Below.refl _ _).alloc (Nat.le_refl _) _).alloc (by simp) _⟩
  have := Own.made (w.alloc (Obj.cells #[Value.string host, Value.int IntKind.u64 lam, Value.bool true, Value.int IntKind.u32 own, Value.int IntKind.u32 nn, Value.slice a len cap] 27)) #[Value.int .u32 0] k 24
  rw [World.size_alloc] at this
  exact this.congr (fun i hi => by simp [Nat.mod_one, zeroClk_cnt])

set_option maxRecDepth 100000 in
set_option maxHeartbeats 1000000 in
theorem dense_some (k : Nat) (host : ByteArray) (lam own nn : Int) (a : Option Addr) (len cap : Nat) (hs cn : Nat → Int) (w : World) (hk : k ≤ 131072) (hl : len ≤ 131072) (hkn : KN w a len hs cn)
    (ho0 : 0 ≤ own) (ho1 : own < k) (hh0 : ∀ j, j < len → 0 ≤ hs j) (hhk : ∀ j, j < len → hs j < k) :
    Calls Try.prog 29 #[.int .i64 k, .agg #[.string host, .int .u64 lam, .bool false, .int .u32 own, .int .u32 nn, .slice a len cap]] w fun e w' =>
      ∃ g, e = .returned (.slice (some ⟨g, 0, none⟩) k k) ∧ Own w' g k (fun i => .int .u32 ((Clk.mk own nn len hs cn).cnt i)) ∧ Below w.heap.size w w' := by
  have hmk := run_mk1 (P := Try.prog) 78 24 _ 4 Try.underlying78 info24 rfl k (by omega) (by omega)
  have HN : Hid (KN w a len hs cn) := hkn
  have HH : Hid (∀ j, j < len → 0 ≤ hs j ∧ hs j < k) := fun j hj => ⟨hh0 j hj, hhk j hj⟩
  clear hkn hh0 hhk
  go_enter Try.func29, Try.ntmps29
  go_wp2
  go_loopg [6] len (fun kx s wr => ∃ j : Nat, j ≤ len ∧ s = .int .i64 j ∧ len - j ≤ kx ∧ wr.cell? ⟨w.heap.size, 5, none⟩ = some (.slice a len cap) ∧ wr.cell? ⟨w.heap.size, 3, none⟩ = some (.int .u32 own) ∧ wr.cell? ⟨w.heap.size, 4, none⟩ = some (.int .u32 nn) ∧
    Hid (Below w.heap.size w wr) ∧ Hid (Own wr (w.heap.size + 1) k (fun i => .int .u32 (look hs cn i j))))
  case atStart =>
    refine ⟨0, Nat.zero_le _, rfl, by omega, by rw [cellA (by simp), World.cell?_alloc_new]; rfl, by rw [cellA (by simp), World.cell?_alloc_new]; rfl, by rw [cellA (by simp), World.cell?_alloc_new]; rfl, (((Below.refl _ _).alloc (Nat.le_refl _) _).alloc (by simp) _), ?_⟩
    have := Own.made (w.alloc (Obj.cells #[Value.string host, Value.int IntKind.u64 lam, Value.bool false, Value.int IntKind.u32 own, Value.int IntKind.u32 nn, Value.slice a len cap] 27)) #[Value.int .u32 0] k 24
    rw [World.size_alloc] at this
    exact this.congr (fun i hi => by simp [Nat.mod_one, look])
  case round =>
    obtain ⟨j, hj, rfl, hgj, f5, f3, f4, hb, hO⟩ := hrel
    by_cases hlt : j < len
    · rcases HN.out with e0 | ⟨b0, o0, ha0, hb0, hc0⟩
      · omega
      obtain ⟨d0, d1⟩ := hc0 j hlt
      rw [← hb.out.cell hb0] at d0 d1
      obtain ⟨q0, q1⟩ := HH.out j hlt
      obtain ⟨x, hx⟩ : ∃ x : Nat, hs j = x := ⟨(hs j).toNat, by omega⟩
      have HX : Hid (hs j = x) := hx
      rw [hx] at d0 q1 q0
      have hxk : x < k := by omega
      have e0 := hO.out.cell x hxk
      have t0 := hO.out.thaw x
      have hO' : Hid (Own (wr.setCell ⟨w.heap.size + 1, x, none⟩ (.int .u32 (cn j))) (w.heap.size + 1) k (fun i => .int .u32 (look hs cn i (j + 1)))) := by
        refine (hO.out.set x hxk (.int .u32 (cn j))).congr (fun i hi => ?_)
        have hl : look hs cn i (j + 1) = if hs j = i then cn j else look hs cn i j := rfl
        by_cases e : i = x
        · subst e; rw [if_pos rfl, hl, if_pos hx]
        · rw [if_neg e, hl, if_neg (by rw [hx]; omega)]
      have hB' : Hid (Below (w.heap.size + 1) wr (wr.setCell ⟨w.heap.size + 1, x, none⟩ (.int .u32 (cn j))).drew) := (below_set1 wr _ _ _).drew
      clear hc0 hx q0
      subst ha0
      go_wp2
      go_region
      go_wp2
      go_roundg (len - (j + 1))
      case measure => omega
      case rel =>
        refine ⟨j + 1, by omega, by go_num, Nat.le_refl _, ?_, ?_, ?_, hb.out.trans (hB'.out.mono (by omega)), hO'.out.drew⟩
        · rw [hB'.out.cell (show w.heap.size < _ by omega)]; exact f5
        · rw [hB'.out.cell (show w.heap.size < _ by omega)]; exact f3
        · rw [hB'.out.cell (show w.heap.size < _ by omega)]; exact f4
    · obtain rfl : j = len := by omega
      obtain ⟨x, hx⟩ : ∃ x : Nat, own = x := ⟨own.toNat, by omega⟩
      subst hx
      have hxk : x < k := by omega
      have e0 := hO.out.cell x hxk
      have t0 := hO.out.thaw x
      go_wp2
      go_ret
      refine ⟨_, rfl, ?_, hb.out.setCell (p := ⟨w.heap.size + 1, x, none⟩) (by show w.heap.size ≤ w.heap.size + 1; omega) _⟩
      refine (hO.out.set x hxk (.int .u32 nn)).congr (fun i hi => ?_)
      have hl : (Clk.mk (x : Int) nn j hs cn).cnt i = if (i : Int) = x then nn else look hs cn i j := rfl
      by_cases e : i = x
      · subst e; rw [if_pos rfl, hl, if_pos rfl]
      · rw [if_neg e, hl, if_neg (by omega)]

end Go.Proofs.Qxb6609005a
