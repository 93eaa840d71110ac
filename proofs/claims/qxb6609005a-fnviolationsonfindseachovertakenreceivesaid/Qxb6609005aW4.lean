import Derived.Test.Qxb6609005aW3
namespace Go.Proofs.Qxb6609005a
open Go.RowKit Go.WideMaps Go.Maps
set_option linter.unusedSimpArgs false
set_option linter.unusedVariables false

theorem bcell {W w1 : World} (hb : Below W.heap.size W w1) : ∀ b o, b < W.heap.size → w1.cell? ⟨b, o, none⟩ = W.cell? ⟨b, o, none⟩ := fun b o h => hb.cell (p := ⟨b, o, none⟩) h

theorem wrap_u64_32 {x : Int} (h : 0 ≤ x ∧ x < 4294967296) : IntKind.u64.wrap x = x := by rw [IntKind.wrap_u64]; omega

set_option maxHeartbeats 1000000 in
theorem Count_any (hp : Option Addr) (c : Clk) (ka : Option Addr) (kc : Nat) (s : ByteArray) (bm n : Nat) (nm : Nat → ByteArray) (w : World) (hH : HostsAt w hp bm) (hz : hp = none → c = zeroClk) (hM : NumMap w bm nm n) (hl : c.len ≤ 131072)
    (hkn : KN w ka c.len c.hs c.cn) (hasc : ∀ j, j + 1 < c.len → c.hs j < c.hs (j + 1)) (hf : c.Fits) (hs : s.size ≤ maxLen) :
    Calls Try.prog 34 #[.agg #[.pointer hp, .int .u32 c.own, .int .u32 c.n, .slice ka c.len kc], .string s] w fun e w' => e = .returned (.int .u64 (cH nm n c s)) ∧ Below w.heap.size w w' := by
  have HN : Hid (KN w ka c.len c.hs c.cn) := hkn
  have HA : Hid (∀ j, j + 1 < c.len → c.hs j < c.hs (j + 1)) := hasc
  have HF : Hid c.Fits := hf
  have HM : Hid (NumMap w bm nm n) := hM
  clear hkn hasc hf hM
  rcases hH with rfl | ⟨hb, rfl, hlt, hcell⟩
  · have HC : Hid (cH nm n c s = 0) := by rw [hz rfl]; exact cH_zero nm n s
    clear hz
    go_enter Try.func34, Try.ntmps34
    go_wp2_with (go_at_call 42; refine (numberOf_zero _ _ _ _ _ _ _).mono ?_; rintro e w1 ⟨rfl, hb1⟩)
    go_ret
    exact ⟨by rw [HC.out]; rfl, ((Below.refl _ _).alloc (Nat.le_refl _) _).trans (hb1.mono (by simp))⟩
  · clear hz
    have HB0 : Hid (∀ o, Below w.heap.size w (w.alloc o)) := fun o => (Below.refl _ _).alloc (Nat.le_refl _) _
    have hcell' : ∀ o, (w.alloc o).cell? ⟨hb, 1, none⟩ = some (.map (some bm)) := fun o => by rw [(HB0.out o).cell hlt]; exact hcell
    have HC' : Hid (∀ o, (w.alloc o).cell? ⟨hb, 1, none⟩ = some (.map (some bm))) := hcell'
    clear hcell hcell'
    go_enter Try.func34, Try.ntmps34
    go_wp2_with fail
    refine (numberOf_some hb bm n nm s c.own c.n ka c.len kc _ (by simp; omega) (HC'.out _) (HM.out.below (HB0.out _)) hs).mono ?_
    rintro e w1 ⟨hNF, hb1⟩
    have hc1 := bcell hb1
    have B1 : Hid (Below w.heap.size w w1) := (HB0.out _).trans (hb1.mono (by simp))
    rcases hNF with ⟨i, hi, rfl⟩ | ⟨hi, c0, rfl⟩
    · have HC : Hid (cH nm n c s = c.cnt i) := cH_some hi
      have hw := wrap_u64_32 (Clk.cnt_range HF.out (i : Int))
      clear hi hb1
      go_wp2_with fail
      refine (count_any _ c ka kc (i : Int) w1 hl (HN.out.below B1.out) HA.out).mono ?_
      rintro e w2 ⟨rfl, hb2⟩
      go_wp2
      go_ret
      exact ⟨by rw [HC.out]; rfl, B1.out.trans (hb2.mono B1.out.size)⟩
    · have HC : Hid (cH nm n c s = 0) := cH_none hi
      clear hi hb1
      go_wp2
      go_ret
      exact ⟨by rw [HC.out]; rfl, B1.out⟩

/-- an event in memory -/
structure EvAt (w : World) (eb : Nat) (host : ByteArray) (lam : Int) (hp : Option Addr) (c : Clk) (ka : Option Addr) (kc : Nat) : Prop where
  lt : eb < w.heap.size
  h0 : w.cell? ⟨eb, 0, none⟩ = some (.string host)
  h1 : w.cell? ⟨eb, 1, none⟩ = some (.pointer hp)
  h2 : w.cell? ⟨eb, 2, none⟩ = some (.int .u32 c.own)
  h3 : w.cell? ⟨eb, 3, none⟩ = some (.int .u32 c.n)
  h4 : w.cell? ⟨eb, 4, none⟩ = some (.slice ka c.len kc)
  h5 : w.cell? ⟨eb, 5, none⟩ = some (.int .u64 lam)
  kn : KN w ka c.len c.hs c.cn
theorem EvAt.below {w w' : World} {eb : Nat} {host : ByteArray} {lam : Int} {hp : Option Addr} {c : Clk} {ka : Option Addr} {kc : Nat} (h : EvAt w eb host lam hp c ka kc) (k : Below w.heap.size w w') : EvAt w' eb host lam hp c ka kc :=
  ⟨Nat.lt_of_lt_of_le h.lt k.size, by rw [k.cell h.lt]; exact h.h0, by rw [k.cell h.lt]; exact h.h1, by rw [k.cell h.lt]; exact h.h2, by rw [k.cell h.lt]; exact h.h3, by rw [k.cell h.lt]; exact h.h4, by rw [k.cell h.lt]; exact h.h5, h.kn.below k⟩

theorem info76 : (Try.prog.info? 76).map (fun i => (i.zero, i.size, i.bytes)) = some (some (.agg #[.int .u32 0, .int .u32 0]), 2, 8) := by kernel_rfl
theorem info24 : (Try.prog.info? 24).map (fun i => (i.zero, i.size, i.bytes)) = some (some (.int .u32 0), 1, 4) := by kernel_rfl

set_option maxHeartbeats 1000000 in
theorem newClock_any (a0 : Option Addr) (n0 c0 : Nat) (m : Option Nat) (own nn : Int) (ka : Option Addr) (kl kc : Nat) (w : World) :
    Calls Try.prog 27 #[.slice a0 n0 c0, .map m, .int .u32 own, .int .u32 nn, .slice ka kl kc] w fun e w' => ∃ hb, e = .returned (.agg #[.pointer (some ⟨hb, 0, none⟩), .int .u32 own, .int .u32 nn, .slice ka kl kc]) ∧
      hb < w'.heap.size ∧ w.heap.size ≤ hb ∧ w'.cell? ⟨hb, 1, none⟩ = some (.map m) ∧ Below w.heap.size w w' := by
  go_enter Try.func27, Try.ntmps27
  go_wp2
  refine bodyPost_ret (v := .agg #[.pointer (some ⟨w.heap.size + 1, 0, none⟩), .int .u32 own, .int .u32 nn, .slice ka kl kc]) (by simp [results, Try.results27, go_sem]) rfl ⟨w.heap.size + 1, rfl, ?_, ?_, ?_, ?_⟩
  · simp
  · omega
  · simp
  · exact ((Below.refl _ _).alloc (Nat.le_refl _) _).alloc (by simp) _

/-- the clock of an event that came in -/
def evClk (z : Bool) (own nn : Int) (len : Nat) (hs cn : Nat → Int) : Clk := if z = true then zeroClk else ⟨own, nn, len, hs, cn⟩

/-- the entries after k rounds -/
def Pairs (w : World) (g n : Nat) (hs cn : Nat → Int) (k : Nat) : Prop :=
  ∃ f, Own w g (n * 2) f ∧ ∀ i, i < k → f (i * 2) = .int .u32 (hs i) ∧ f (i * 2 + 1) = .int .u32 (cn i)

theorem Pairs.set {w : World} {g n : Nat} {hs cn : Nat → Int} {k : Nat} (h : Pairs w g n hs cn k) (hk : k < n) :
    Pairs ((w.setCell ⟨g, k * 2, none⟩ (.int .u32 (hs k))).setCell ⟨g, k * 2 + 1, none⟩ (.int .u32 (cn k))) g n hs cn (k + 1) := by
  obtain ⟨f, hf, hx⟩ := h
  refine ⟨_, (hf.set (k * 2) (by omega) _).set (k * 2 + 1) (by omega) _, fun i hi => ?_⟩
  by_cases e : i = k
  · subst e; simp
  · obtain ⟨h1, h2⟩ := hx i (by omega)
    simp only [show i * 2 ≠ k * 2 + 1 by omega, show i * 2 ≠ k * 2 by omega, show i * 2 + 1 ≠ k * 2 + 1 by omega, show i * 2 + 1 ≠ k * 2 by omega, if_false]
    exact ⟨h1, h2⟩
theorem Pairs.drew {w : World} {g n : Nat} {hs cn : Nat → Int} {k : Nat} (h : Pairs w g n hs cn k) : Pairs w.drew g n hs cn k := by
  obtain ⟨f, hf, hx⟩ := h
  exact ⟨f, hf.drew, hx⟩
theorem Pairs.kn {w : World} {g n : Nat} {hs cn : Nat → Int} (h : Pairs w g n hs cn n) : KN w (some ⟨g, 0, none⟩) n hs cn := by
  obtain ⟨f, hf, hx⟩ := h
  refine .inr ⟨g, 0, rfl, hf.lt, fun i hi => ?_⟩
  obtain ⟨h1, h2⟩ := hx i hi
  rw [Nat.zero_add, hf.cell _ (by omega), hf.cell _ (by omega), h1, h2]
  exact ⟨rfl, rfl⟩

set_option maxHeartbeats 1000000 in
theorem buildEvent_zero (a0 : Option Addr) (n0 c0 : Nat) (m : Option Nat) (host : ByteArray) (lam own nn : Int) (a : Option Addr) (len cap : Nat) (w : World) :
    Calls Try.prog 13 #[.slice a0 n0 c0, .map m, .agg #[.string host, .int .u64 lam, .bool true, .int .u32 own, .int .u32 nn, .slice a len cap]] w fun e w' =>
      ∃ eb, e = .returned (.pointer (some ⟨eb, 0, none⟩)) ∧ EvAt w' eb host lam none zeroClk none 0 ∧ Below w.heap.size w w' := by
  go_enter Try.func13, Try.ntmps13
  go_wp2
  go_ret
  refine ⟨_, rfl, ⟨by simp, by simp, by simp, by simp [zeroClk], by simp [zeroClk], by simp [zeroClk], by simp, .inl rfl⟩, ((Below.refl _ _).alloc (Nat.le_refl _) _).alloc (by simp) _⟩

theorem below_set1 (w : World) (g i : Nat) (u : Value) : Below g w (w.setCell ⟨g, i, none⟩ u) := (Below.refl g w).setCell (p := ⟨g, i, none⟩) (Nat.le_refl g) u
theorem below_set2 (w : World) (g i j : Nat) (u v : Value) : Below g w ((w.setCell ⟨g, i, none⟩ u).setCell ⟨g, j, none⟩ v) := (below_set1 w g i u).trans (below_set1 _ g j v)
theorem below_set4 (w : World) (g i j k l : Nat) (u v x y : Value) : Below g w ((((w.setCell ⟨g, i, none⟩ u).setCell ⟨g, j, none⟩ v).setCell ⟨g, k, none⟩ x).setCell ⟨g, l, none⟩ y) := (below_set2 w g i j u v).trans (below_set2 _ g k l x y)

/-- the first six cells of an event -/
def evF (host : ByteArray) (lam : Int) : Nat → Value
  | 0 => .string host
  | 1 => .pointer none
  | 2 => .int .u32 0
  | 3 => .int .u32 0
  | 4 => .slice none 0 0
  | _ => .int .u64 lam

set_option maxRecDepth 100000 in
set_option maxHeartbeats 1000000 in
theorem buildEvent_some (a0 : Option Addr) (n0 c0 bm : Nat) (host : ByteArray) (lam own nn : Int) (a : Option Addr) (len cap : Nat) (hs cn : Nat → Int) (w : World) (hl : len ≤ 131072) (hkn : KN w a len hs cn) :
    Calls Try.prog 13 #[.slice a0 n0 c0, .map (some bm), .agg #[.string host, .int .u64 lam, .bool false, .int .u32 own, .int .u32 nn, .slice a len cap]] w fun e w' =>
      ∃ eb hb g, e = .returned (.pointer (some ⟨eb, 0, none⟩)) ∧ EvAt w' eb host lam (some ⟨hb, 0, none⟩) ⟨own, nn, len, hs, cn⟩ (some ⟨g, 0, none⟩) len ∧ HostsAt w' (some ⟨hb, 0, none⟩) bm ∧ Below w.heap.size w w' := by
  have hmk := run_mk (P := Try.prog) 69 76 _ 2 8 Try.underlying69 info76 len (by omega) (by omega)
  have HN : Hid (KN w a len hs cn) := hkn
  clear hkn
  go_enter Try.func13, Try.ntmps13
  go_wp2
  go_loopg [9] len (fun kx s wr => ∃ j : Nat, j ≤ len ∧ s = .int .i64 j ∧ len - j ≤ kx ∧ wr.cell? ⟨w.heap.size, 5, none⟩ = some (.slice a len cap) ∧ wr.cell? ⟨w.heap.size, 3, none⟩ = some (.int .u32 own) ∧ wr.cell? ⟨w.heap.size, 4, none⟩ = some (.int .u32 nn) ∧
    Hid (Below w.heap.size w wr) ∧ Hid (Own wr (w.heap.size + 1) 6 (evF host lam)) ∧ Hid (Pairs wr (w.heap.size + 1 + 1) len hs cn j))
  case atStart =>
    refine ⟨0, Nat.zero_le _, rfl, by omega, by rw [cellA (by simp; omega), cellA (by simp), World.cell?_alloc_new]; rfl, by rw [cellA (by simp; omega), cellA (by simp), World.cell?_alloc_new]; rfl, by rw [cellA (by simp; omega), cellA (by simp), World.cell?_alloc_new]; rfl, ((((Below.refl _ _).alloc (Nat.le_refl _) _).alloc (by simp) _).alloc (by simp; omega) _), ?_, ?_⟩
    · have hO : Own ((w.alloc (Obj.cells #[Value.string host, Value.int IntKind.u64 lam, Value.bool false, Value.int IntKind.u32 own, Value.int IntKind.u32 nn, Value.slice a len cap] 27)).alloc (Obj.cells #[Value.string host, Value.pointer none, Value.int IntKind.u32 0, Value.int IntKind.u32 0, Value.slice none 0 0, Value.int IntKind.u64 lam, Value.string { data := #[] }, Value.string { data := #[] }, Value.int IntKind.i64 0, Value.slice none 0 0, Value.int IntKind.u8 0, Value.string { data := #[] }, Value.pointer none] 75)) (w.heap.size + 1) 6 (evF host lam) := by
        refine ⟨by simp, fun i hi => ?_, fun i => ?_⟩
        · rw [World.cell?_alloc_at _ _ _ _ (by simp)]
          match i, hi with
          | 0, _ => rfl
          | 1, _ => rfl
          | 2, _ => rfl
          | 3, _ => rfl
          | 4, _ => rfl
          | 5, _ => rfl
        · rw [World.frozen?_alloc_at _ _ _ _ (by simp)]
      exact hO.alloc _
    · have hP := Own.made ((w.alloc (Obj.cells #[Value.string host, Value.int IntKind.u64 lam, Value.bool false, Value.int IntKind.u32 own, Value.int IntKind.u32 nn, Value.slice a len cap] 27)).alloc (Obj.cells #[Value.string host, Value.pointer none, Value.int IntKind.u32 0, Value.int IntKind.u32 0, Value.slice none 0 0, Value.int IntKind.u64 lam, Value.string { data := #[] }, Value.string { data := #[] }, Value.int IntKind.i64 0, Value.slice none 0 0, Value.int IntKind.u8 0, Value.string { data := #[] }, Value.pointer none] 75)) #[Value.int .u32 0, Value.int .u32 0] (len * 2) 76
      simp only [World.size_alloc] at hP
      exact (⟨_, hP, fun i hi => by omega⟩ : Pairs _ _ len hs cn 0)
  case round =>
    obtain ⟨j, hj, rfl, hgj, f5, f3, f4, hb, hE, hP⟩ := hrel
    by_cases hlt : j < len
    · rcases HN.out with e0 | ⟨b0, o0, ha0, hb0, hc0⟩
      · omega
      obtain ⟨d0, d1⟩ := hc0 j hlt
      rw [← hb.out.cell hb0] at d0 d1
      obtain ⟨f, hO, hf⟩ := hP.out
      have e0 := hO.cell (j * 2) (by omega)
      have e1 := hO.cell (j * 2 + 1) (by omega)
      have t0 := hO.thaw (j * 2)
      have t1 := hO.thaw (j * 2 + 1)
      have hP' : Hid (Pairs ((wr.setCell ⟨w.heap.size + 1 + 1, j * 2, none⟩ (.int .u32 (hs j))).setCell ⟨w.heap.size + 1 + 1, j * 2 + 1, none⟩ (.int .u32 (cn j))) (w.heap.size + 1 + 1) len hs cn (j + 1)) := hP.out.set hlt
      have hB' : Hid (Below (w.heap.size + 1 + 1) wr ((wr.setCell ⟨w.heap.size + 1 + 1, j * 2, none⟩ (.int .u32 (hs j))).setCell ⟨w.heap.size + 1 + 1, j * 2 + 1, none⟩ (.int .u32 (cn j))).drew) := (below_set2 wr _ _ _ _ _).drew
      clear hO hf hc0
      subst ha0
      go_wp2
      go_region
      go_wp2
      go_roundg (len - (j + 1))
      case measure => omega
      case rel =>
        refine ⟨j + 1, by omega, by go_num, Nat.le_refl _, ?_, ?_, ?_, hb.out.trans (hB'.out.mono (by omega)), hE.out.below hB'.out (by omega), hP'.out.drew⟩
        · rw [hB'.out.cell (show w.heap.size < _ by omega)]; exact f5
        · rw [hB'.out.cell (show w.heap.size < _ by omega)]; exact f3
        · rw [hB'.out.cell (show w.heap.size < _ by omega)]; exact f4
    · obtain rfl : j = len := by omega
      have hlt1 := hE.out.lt
      go_wp2_with fail
      refine (newClock_any _ _ _ _ _ _ _ _ _ _).mono ?_
      rintro e w1 ⟨hb1, rfl, hl1, hl2, hc1, hB1⟩
      have O1 : Own w1 (w.heap.size + 1) 6 (evF host lam) := hE.out.below hB1 hE.out.lt
      have y1 := O1.cell 1 (by omega)
      have y2 := O1.cell 2 (by omega)
      have y3 := O1.cell 3 (by omega)
      have y4 := O1.cell 4 (by omega)
      have t1 := O1.thaw 1
      have t2 := O1.thaw 2
      have t3 := O1.thaw 3
      have t4 := O1.thaw 4
      have KP : Hid (KN w1 (some ⟨w.heap.size + 1 + 1, 0, none⟩) j hs cn) := (hP.out.kn).below hB1
      have OO : Hid (Own w1 (w.heap.size + 1) 6 (evF host lam)) := O1
      have BB : Hid (Below w.heap.size w w1) := hb.out.trans (hB1.mono hb.out.size)
      have HC1 : Hid (w1.cell? ⟨hb1, 1, none⟩ = some (.map (some bm))) := hc1
      clear O1 hB1 hc1 hP hb hE
      go_wp2
      go_ret
      have E1 := (((OO.out.set 1 (by omega) (.pointer (some ⟨hb1, 0, none⟩))).set 2 (by omega) (.int .u32 own)).set 3 (by omega) (.int .u32 nn)).set 4 (by omega) (.slice (some ⟨w.heap.size + 1 + 1, 0, none⟩) j j)
      have KB : Below (w.heap.size + 1) w1 ((((w1.setCell ⟨w.heap.size + 1, 1, none⟩ (.pointer (some ⟨hb1, 0, none⟩))).setCell ⟨w.heap.size + 1, 2, none⟩ (.int .u32 own)).setCell ⟨w.heap.size + 1, 3, none⟩ (.int .u32 nn)).setCell ⟨w.heap.size + 1, 4, none⟩ (.slice (some ⟨w.heap.size + 1 + 1, 0, none⟩) j j)) :=
        below_set4 w1 _ _ _ _ _ _ _ _ _
      refine ⟨w.heap.size + 1, hb1, w.heap.size + 1 + 1, rfl, ⟨E1.lt, ?_, ?_, ?_, ?_, ?_, ?_, ?_⟩, .inr ⟨hb1, rfl, ?_, ?_⟩, BB.out.trans (KB.mono (by omega))⟩
      · rw [E1.cell 0 (by omega)]; rfl
      · rw [E1.cell 1 (by omega)]; rfl
      · rw [E1.cell 2 (by omega)]; rfl
      · rw [E1.cell 3 (by omega)]; rfl
      · rw [E1.cell 4 (by omega)]; rfl
      · rw [E1.cell 5 (by omega)]; rfl
      · rcases KP.out with h | ⟨b, o, h1, h2, h3⟩
        · exact .inl h
        · injection h1 with h1; injection h1 with h1 h1'; subst h1; subst h1'
          refine .inr ⟨_, _, rfl, by simpa using h2, fun i hi => ?_⟩
          have := h3 i hi
          refine ⟨?_, ?_⟩
          · rw [World.cell?_setCell_other _ _ _ _ (by intro e; injection e with e1 _; omega), World.cell?_setCell_other _ _ _ _ (by intro e; injection e with e1 _; omega), World.cell?_setCell_other _ _ _ _ (by intro e; injection e with e1 _; omega), World.cell?_setCell_other _ _ _ _ (by intro e; injection e with e1 _; omega)]; exact this.1
          · rw [World.cell?_setCell_other _ _ _ _ (by intro e; injection e with e1 _; omega), World.cell?_setCell_other _ _ _ _ (by intro e; injection e with e1 _; omega), World.cell?_setCell_other _ _ _ _ (by intro e; injection e with e1 _; omega), World.cell?_setCell_other _ _ _ _ (by intro e; injection e with e1 _; omega)]; exact this.2
      · simpa using hl1
      · rw [World.cell?_setCell_other _ _ _ _ (by intro e; injection e with e1 _; omega), World.cell?_setCell_other _ _ _ _ (by intro e; injection e with e1 _; omega), World.cell?_setCell_other _ _ _ _ (by intro e; injection e with e1 _; omega), World.cell?_setCell_other _ _ _ _ (by intro e; injection e with e1 _; omega)]; exact HC1.out

end Go.Proofs.Qxb6609005a
