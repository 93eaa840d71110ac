import Derived.Test.Qxb6609005aC6
namespace Go.Proofs.Qxb6609005a
open Go.RowKit Go.WideMaps Go.Maps Go.Sort
set_option linter.unusedSimpArgs false
set_option linter.unusedVariables false
set_option linter.unusedSectionVars false

/-- the log of the first k events -/
def lg (ev : Nat → Ev) (nm : Nat → ByteArray) (n0 bm : Nat) (E F : Nat → Nat) (k : Nat) : Log :=
  { m := k, E := E, F := F, rv := fun i => (ev i).rv, ho := fun i => (ev i).host, la := fun i => (ev i).lam, ck := fun i => (ev i).clk, bm := bm, n := n0, nm := nm }

/-- the state of buildHostEvents after k events -/
structure HBi (ev : Nat → Ev) (nm : Nat → ByteArray) (n0 : Nat) (w : World) (bm hr pb B0 m : Nat) (E F : Nat → Nat) (k : Nat) (W : World) : Prop where
  bel : Below w.heap.size w W
  num : NumMap W bm nm n0
  bmw : bm < B0 ∧ bm ≠ hr ∧ bm ≠ pb
  hrw : w.heap.size ≤ hr ∧ hr < B0
  pbw : w.heap.size ≤ pb ∧ pb < B0 ∧ pb ≠ hr
  sz : B0 ≤ W.heap.size
  inj : ∀ i j, i < k → j < k → E i = E j → i = j
  eb : ∀ i, i < k → B0 ≤ E i ∧ E i < W.heap.size
  whole : ∀ i, i < k → ∃ cs, W.heap[E i]? = some (.cells cs 75 (0, 0)) ∧ cs[12]? = some (.pointer (if (ev i).rv = true then some ⟨F i, 0, none⟩ else none))
  sent : ∀ i, i < k → (ev i).rv = true → ∃ hp ka kc, EvLog W (F i) (ev i).host (ev i).lam hp (ev i).clk ka kc bm n0 nm ∧ EvFresh B0 (F i) hp ka
  row : Fill W hr m (fun i => .pointer (some ⟨E i, 0, none⟩)) k
  map : AMap W pb (fun i => .pointer (some ⟨E i, 0, none⟩)) (fun i => i < k) (fun i => some (.int .i64 (i : Nat)))

theorem HBi.log {ev : Nat → Ev} {nm : Nat → ByteArray} {n0 : Nat} {w : World} {bm hr pb B0 m : Nat} {E F : Nat → Nat} {k : Nat} {W : World} (h : HBi ev nm n0 w bm hr pb B0 m E F k W) : LogAt W (lg ev nm n0 bm E F k) :=
  ⟨h.num, h.inj, h.whole, fun i hi hr => by
    obtain ⟨hp, ka, kc, X, _⟩ := h.sent i hi hr
    exact ⟨hp, ka, kc, X⟩⟩

theorem HBi.step {ev : Nat → Ev} {nm : Nat → ByteArray} {n0 : Nat} {w : World} {bm hr pb B0 m : Nat} {E F : Nat → Nat} {k : Nat} {W W2 : World} (h : HBi ev nm n0 w bm hr pb B0 m E F k W) (hk : k < m) (B : Below W.heap.size W W2) {cs : Array Value} {F0 : Nat}
    (e0 : W2.heap[W.heap.size]? = some (.cells cs 75 (0, 0))) (e12 : cs[12]? = some (.pointer (if (ev k).rv = true then some ⟨F0, 0, none⟩ else none)))
    (hs : (ev k).rv = true → ∃ hp ka kc, EvLog W2 F0 (ev k).host (ev k).lam hp (ev k).clk ka kc bm n0 nm ∧ EvFresh W.heap.size F0 hp ka) :
    (∃ v, W2.cell? ⟨hr, k, none⟩ = some v) ∧ W2.frozen? ⟨hr, k, none⟩ = false ∧
    ∃ W4, (Instr.mapUpdate 45 (.map (some pb)) (.pointer (some ⟨W.heap.size, 0, none⟩)) (.int .i64 (k : Nat))).run Try.prog (W2.setCell ⟨hr, k, none⟩ (.pointer (some ⟨W.heap.size, 0, none⟩))) = .ok () W4 ∧
      ∃ E' F', HBi ev nm n0 w bm hr pb B0 m E' F' (k + 1) W4 := by
  have hsz := h.sz
  have hrl : hr < W.heap.size := by have := h.hrw; omega
  have R2 : Fill W2 hr m (fun i => .pointer (some ⟨E i, 0, none⟩)) k := h.row.below B hrl
  obtain ⟨v0, c0, t0⟩ := fill_cell R2 k hk
  refine ⟨⟨v0, c0⟩, t0, ?_⟩
  obtain ⟨W3, hW3⟩ : ∃ W3, W3 = W2.setCell ⟨hr, k, none⟩ (.pointer (some ⟨W.heap.size, 0, none⟩)) := ⟨_, rfl⟩
  rw [← hW3]
  have hlt2 : W.heap.size < W2.heap.size := (Array.getElem?_eq_some_iff.1 e0).1
  have K23 : Keep (fun b => b = hr ∨ b = pb) W2 W3 := by rw [hW3]; exact (Keep.refl _ _).set k _ (.inl (.inl rfl))
  have KW2 : Keep (fun b => b = hr ∨ b = pb) W W2 := Keep.of_below B
  have KW3 := KW2.trans K23
  -- the new functions
  obtain ⟨E', hE'⟩ : ∃ E' : Nat → Nat, E' = fun i => if i = k then W.heap.size else E i := ⟨_, rfl⟩
  obtain ⟨F', hF'⟩ : ∃ F' : Nat → Nat, F' = fun i => if i = k then F0 else F i := ⟨_, rfl⟩
  have Ek : E' k = W.heap.size := by rw [hE']; simp
  have Eo : ∀ i, i < k → E' i = E i := fun i hi => by rw [hE']; simp [show i ≠ k by omega]
  have Fk : F' k = F0 := by rw [hF']; simp
  have Fo : ∀ i, i < k → F' i = F i := fun i hi => by rw [hF']; simp [show i ≠ k by omega]
  have split : ∀ {i}, i < k + 1 → i = k ∨ i < k := fun hi => by omega
  -- all but row and map at any world that keeps the rest of W3
  have mk : ∀ W4, Keep (fun b => b = hr ∨ b = pb) W2 W4 → Fill W4 hr m (fun i => .pointer (some ⟨E' i, 0, none⟩)) (k + 1) → ∀ f, AMap W4 pb (fun i => .pointer (some ⟨E' i, 0, none⟩)) (fun i => i < k + 1) f → (∀ i, i < k + 1 → f i = some (.int .i64 (i : Nat))) → HBi ev nm n0 w bm hr pb B0 m E' F' (k + 1) W4 := by
    intro W4 K hrow f hmap hf
    have KW4 := KW2.trans K
    have h1 := h.bmw
    have h2 := h.hrw
    have h3 := h.pbw
    refine ⟨KW4.below h.bel (fun b hb => by rcases hb with e | e <;> subst e <;> omega), h.num.keepB (KW4.block bm h.num.lt (fun e => by rcases e with e | e <;> omega)), h1, h2, h3, Nat.le_trans h.sz KW4.size, ?_, ?_, ?_, ?_, hrow, ?_⟩
    · intro i j hi hj e
      rcases split hi with rfl | hi' <;> rcases split hj with rfl | hj'
      · rfl
      · rw [Ek, Eo j hj'] at e; have := (h.eb j hj').2; omega
      · rw [Ek, Eo i hi'] at e; have := (h.eb i hi').2; omega
      · rw [Eo i hi', Eo j hj'] at e; exact h.inj i j hi' hj' e
    · intro i hi
      rcases split hi with rfl | hi'
      · rw [Ek]; have := K.size; omega
      · rw [Eo i hi']; have := h.eb i hi'; have := KW4.size; omega
    · intro i hi
      rcases split hi with rfl | hi'
      · rw [Ek, Fk]
        exact ⟨cs, by rw [K.block _ hlt2 (fun e => by rcases e with e | e <;> omega)]; exact e0, e12⟩
      · rw [Eo i hi', Fo i hi']
        obtain ⟨cs', g1, g2⟩ := h.whole i hi'
        have := h.eb i hi'
        exact ⟨cs', by rw [KW4.block _ this.2 (fun e => by rcases e with e | e <;> omega)]; exact g1, g2⟩
    · intro i hi hrv
      rcases split hi with rfl | hi'
      · rw [Fk]
        obtain ⟨hp, ka, kc, X, fr⟩ := hs hrv
        have fr' : EvFresh B0 F0 hp ka := ⟨by have := fr.eb; omega, fun x e => by have := fr.hp x e; omega, fun x e => by have := fr.ka x e; omega⟩
        exact ⟨hp, ka, kc, X.keepS fr' K (fun b hb => by rcases hb with e | e <;> omega), fr'⟩
      · rw [Fo i hi']
        obtain ⟨hp, ka, kc, X, fr⟩ := h.sent i hi' hrv
        exact ⟨hp, ka, kc, X.keepS fr KW4 (fun b hb => by rcases hb with e | e <;> omega), fr⟩
    · exact hmap.widen (fun _ h => h) (fun _ _ => rfl) hf (fun x h1 h2 => absurd h1 h2)
  have hrow3 : Fill W3 hr m (fun i => .pointer (some ⟨E' i, 0, none⟩)) (k + 1) := by
    obtain ⟨f, hf, hx⟩ := R2
    have h1 : Fill W2 hr m (fun i => .pointer (some ⟨E' i, 0, none⟩)) k := ⟨f, hf, fun i hi => by rw [hx i hi]; show Value.pointer (some ⟨E i, 0, none⟩) = Value.pointer (some ⟨E' i, 0, none⟩); rw [Eo i hi]⟩
    have h2 := h1.set hk
    rw [Ek] at h2
    rw [hW3]; exact h2
  have hpbl : pb < W.heap.size := by have := h.pbw; omega
  have hmap3 : AMap W3 pb (fun i => .pointer (some ⟨E' i, 0, none⟩)) (fun i => i < k + 1) (fun i => if i < k then some (.int .i64 (i : Nat)) else none) := by
    have h1 : AMap W3 pb (fun i => .pointer (some ⟨E i, 0, none⟩)) (fun i => i < k) (fun i => some (.int .i64 (i : Nat))) := by
      refine h.map.keep ?_
      rw [← B.block pb hpbl, hW3]
      exact Below.heap_setCell W2 ⟨hr, k, none⟩ _ pb h.pbw.2.2
    refine h1.widen (fun x hx => by omega) (fun x hx => by rw [Eo x hx]) (fun x hx => by rw [if_pos hx]) (fun x _ hx => if_neg hx)
  have L3 : LogAt W3 (lg ev nm n0 bm E' F' (k + 1)) := by
    have h1 := h.bmw
    refine ⟨h.num.keepB (KW3.block bm h.num.lt (fun e => by rcases e with e | e <;> omega)), ?_, ?_, ?_⟩
    · intro i j hi hj e
      have hi0 : i < k + 1 := hi
      have hj0 : j < k + 1 := hj
      have e' : E' i = E' j := e
      rcases split hi0 with rfl | hi' <;> rcases split hj0 with rfl | hj'
      · rfl
      · rw [Ek, Eo j hj'] at e'; have := (h.eb j hj').2; omega
      · rw [Ek, Eo i hi'] at e'; have := (h.eb i hi').2; omega
      · rw [Eo i hi', Eo j hj'] at e'; exact h.inj i j hi' hj' e'
    · intro i hi
      have hi0 : i < k + 1 := hi
      have h2 := h.hrw
      have h3 := h.pbw
      show ∃ cs, W3.heap[E' i]? = some (.cells cs 75 (0, 0)) ∧ cs[12]? = some (.pointer (if (ev i).rv = true then some ⟨F' i, 0, none⟩ else none))
      rcases split hi0 with rfl | hi'
      · rw [Ek, Fk]
        exact ⟨cs, by rw [K23.block _ hlt2 (fun e => by rcases e with e | e <;> omega)]; exact e0, e12⟩
      · rw [Eo i hi', Fo i hi']
        obtain ⟨cs', g1, g2⟩ := h.whole i hi'
        have := h.eb i hi'
        exact ⟨cs', by rw [KW3.block _ this.2 (fun e => by rcases e with e | e <;> omega)]; exact g1, g2⟩
    · intro i hi hrv
      have hi0 : i < k + 1 := hi
      have h2 := h.hrw
      have h3 := h.pbw
      show ∃ hp ka kc, EvLog W3 (F' i) (ev i).host (ev i).lam hp (ev i).clk ka kc bm n0 nm
      rcases split hi0 with rfl | hi'
      · rw [Fk]
        obtain ⟨hp, ka, kc, X, fr⟩ := hs hrv
        exact ⟨hp, ka, kc, X.keepS fr K23 (fun b hb => by rcases hb with e | e <;> omega)⟩
      · rw [Fo i hi']
        obtain ⟨hp, ka, kc, X, fr⟩ := h.sent i hi' hrv
        exact ⟨hp, ka, kc, X.keepS fr KW3 (fun b hb => by rcases hb with e | e <;> omega)⟩
  obtain ⟨W4, hst, hm4, hel⟩ := hmap3.store (P := Try.prog) (T := 45) (kt := 35) (et := 3) Try.underlying45 Try.underlying35 notnow_ptr (eqok_log L3) (checks_ptr (lg ev nm n0 bm E' F' (k + 1))) (samebits_ptr (lg ev nm n0 bm E' F' (k + 1))) (x := k) (by omega) (.int .i64 (k : Nat))
  have K34 : Keep (fun b => b = hr ∨ b = pb) W3 W4 := Keep.of_else hel (.inr rfl)
  refine ⟨W4, ?_, E', F', mk W4 (K23.trans K34) ?_ _ hm4 ?_⟩
  · rw [Ek] at hst; exact hst
  · obtain ⟨f, hf, hx⟩ := hrow3
    refine ⟨f, (Keep.of_else (S := fun b => b = pb) hel rfl).own hf (fun e => h.pbw.2.2 e.symm), hx⟩
  · intro i hi
    by_cases e : i = k
    · subst e; simp
    · simp [e, show i < k by omega]

theorem HBi.recv {ev : Nat → Ev} {nm : Nat → ByteArray} {n0 : Nat} {w : World} {bm hr pb B0 m : Nat} {E F : Nat → Nat} {k : Nat} {W w2 : World} (h : HBi ev nm n0 w bm hr pb B0 m E F k W) (hk : k < m) {cs : Array Value} (h12 : cs[12]? = some (.pointer none))
    (B2 : Below (W.alloc (.cells cs 75)).heap.size (W.alloc (.cells cs 75)) w2) {eb : Nat} {hp ka : Option Addr} {kc : Nat} (hL : EvLog w2 eb (ev k).host (ev k).lam hp (ev k).clk ka kc bm n0 nm) (hfr : EvFresh (W.alloc (.cells cs 75)).heap.size eb hp ka) (hrv : (ev k).rv = true) :
    w2.cell? ⟨W.heap.size, 12, none⟩ = some (.pointer none) ∧ w2.frozen? ⟨W.heap.size, 12, none⟩ = false ∧
    (∃ v, (w2.setCell ⟨W.heap.size, 12, none⟩ (.pointer (some ⟨eb, 0, none⟩))).cell? ⟨hr, k, none⟩ = some v) ∧ (w2.setCell ⟨W.heap.size, 12, none⟩ (.pointer (some ⟨eb, 0, none⟩))).frozen? ⟨hr, k, none⟩ = false ∧
    ∃ W4, (Instr.mapUpdate 45 (.map (some pb)) (.pointer (some ⟨W.heap.size, 0, none⟩)) (.int .i64 (k : Nat))).run Try.prog ((w2.setCell ⟨W.heap.size, 12, none⟩ (.pointer (some ⟨eb, 0, none⟩))).setCell ⟨hr, k, none⟩ (.pointer (some ⟨W.heap.size, 0, none⟩))) = .ok () W4 ∧
      ∃ E' F', HBi ev nm n0 w bm hr pb B0 m E' F' (k + 1) W4 := by
  have hsz : (W.alloc (.cells cs 75)).heap.size = W.heap.size + 1 := by simp
  have E1 : (W.alloc (.cells cs 75)).heap[W.heap.size]? = some (.cells cs 75 (0, 0)) := by show (W.heap.push _)[W.heap.size]? = _; simp
  have E2 : w2.heap[W.heap.size]? = some (.cells cs 75 (0, 0)) := by rw [B2.block _ (by omega)]; exact E1
  have hne : ¬ (12 : Nat) ≥ cs.size := by
    intro hh
    rw [Array.getElem?_eq_none hh] at h12; cases h12
  have E3 := heap_setCell_same w2 W.heap.size 12 cs 75 (.pointer (some ⟨eb, 0, none⟩)) E2
  have B1 : Below W.heap.size W (W.alloc (.cells cs 75)) := below_alloc W _
  have B12 : Below W.heap.size W w2 := B1.trans (B2.mono (by omega))
  have B3 : Below W.heap.size W (w2.setCell ⟨W.heap.size, 12, none⟩ (.pointer (some ⟨eb, 0, none⟩))) := B12.setCell (p := ⟨W.heap.size, 12, none⟩) (Nat.le_refl _) _
  have K : Keep (fun b => b = W.heap.size) w2 (w2.setCell ⟨W.heap.size, 12, none⟩ (.pointer (some ⟨eb, 0, none⟩))) := (Keep.refl _ _).set 12 _ (.inl rfl)
  have hL' := hL.keepS hfr K (fun b e => by omega)
  obtain ⟨s1, s2, s3⟩ := h.step hk B3 (F0 := eb) E3 (by rw [hrv, if_pos rfl]; simp [Array.getElem?_setIfInBounds, show 12 < cs.size by omega]) (fun _ => ⟨hp, ka, kc, hL', ⟨by have := hfr.eb; omega, fun x e => by have := hfr.hp x e; omega, fun x e => by have := hfr.ka x e; omega⟩⟩)
  refine ⟨?_, ?_, s1, s2, s3⟩
  · simp [World.cell?, World.cell?, E2, h12]
  · simp [World.frozen?, E2]

/-- what buildHostEvents leaves -/
def Hosts (ev : Nat → Ev) (nm : Nat → ByteArray) (n0 m : Nat) (w : World) (e : Ending) (w' : World) : Prop :=
  ∃ bm hr pb E F, e = .returned (.tuple #[.slice (some ⟨hr, 0, none⟩) m m, .map (some pb)]) ∧ LogAt w' (lg ev nm n0 bm E F m) ∧ Rd w' (some ⟨hr, 0, none⟩) m (fun i => .pointer (some ⟨E i, 0, none⟩)) ∧
    AMap w' pb (fun i => .pointer (some ⟨E i, 0, none⟩)) (fun i => i < m) (fun i => some (.int .i64 (i : Nat))) ∧ Below w.heap.size w w'

theorem mk35 : (Try.prog.info? 35).map (fun i => (i.zero, i.size, i.bytes)) = some (some (.pointer none), 1, 8) := by kernel_rfl

theorem HBi.start (ev : Nat → Ev) (nm : Nat → ByteArray) (n0 : Nat) {w W : World} (bm m : Nat) (hb : Below w.heap.size w W) (hn : NumMap W bm nm n0) :
    HBi ev nm n0 w bm W.heap.size (W.heap.size + 1) (W.heap.size + 2) m (fun _ => 0) (fun _ => 0) 0 ((W.alloc (.cells (madeCells #[.pointer none] m) 35)).alloc (.map #[] 0)) := by
  have hlt := hn.lt
  have hs := hb.size
  have B2 : Below W.heap.size W ((W.alloc (.cells (madeCells #[.pointer none] m) 35)).alloc (.map #[] 0)) := ((Below.refl _ _).alloc (Nat.le_refl _) _).alloc (by simp) _
  refine ⟨hb.trans (B2.mono hs), hn.below B2, ⟨by omega, by omega, by omega⟩, ⟨hs, by omega⟩, ⟨by omega, by omega, by omega⟩, by simp, fun i j hi => by omega, fun i hi => by omega, fun i hi => by omega, fun i hi => by omega, (Fill.made1 W (.pointer none) m 35 _).alloc _, ?_⟩
  have := AMap.new (ι := Nat) (κ := fun i => .pointer (some ⟨(fun _ => 0) i, 0, none⟩)) (dom := fun i => i < 0) (W.alloc (.cells (madeCells #[.pointer none] m) 35))
  rw [World.size_alloc] at this
  exact this.widen (fun _ h => h) (fun _ _ => rfl) (fun x hx => by omega) (fun x h1 h2 => absurd h1 h2)

set_option maxRecDepth 100000 in
set_option maxHeartbeats 4000000 in
theorem buildHosts_any (a0 : Option Addr) (n0 c0 : Nat) (nm : Nat → ByteArray) (a1 : Option Addr) (m c1 : Nat) (ev : Nat → Ev) (w : World) (hn : n0 ≤ 131072) (hm : m ≤ 1024) (h0 : Rd w a0 n0 (fun i => .string (nm i))) (hs : ∀ i, i < n0 → (nm i).size ≤ maxLen) (h1 : EvsOk w a1 m n0 ev) :
    Calls Try.prog 20 #[.slice a0 n0 c0, .slice a1 m c1] w fun e w' => Hosts ev nm n0 m w e w' := by
  have hmk1 := run_mk1 (P := Try.prog) 44 35 _ 8 Try.underlying44 mk35 rfl m (by omega) (by omega)
  have hmm := @run_makeMap Try.prog
  have H1 : Hid (EvsOk w a1 m n0 ev) := h1
  have CN : Hid (Calls Try.prog 12 #[.slice a0 n0 c0] w fun e w' => ∃ bm, e = .returned (.map (some bm)) ∧ NumMap w' bm nm n0 ∧ Below w.heap.size w w') := buildNumber_any a0 n0 c0 nm w hn h0 hs
  clear h0 hs h1
  go_enter Try.func20, Try.ntmps20
  go_wp2_with fail
  refine CN.out.mono ?_
  rintro e w1 ⟨bm, rfl, hN, hB⟩
  have S0 : Hid (HBi ev nm n0 w bm w1.heap.size (w1.heap.size + 1) (w1.heap.size + 2) m (fun _ => 0) (fun _ => 0) 0 ((w1.alloc (.cells (madeCells #[.pointer none] m) 35)).alloc (.map #[] 0))) := HBi.start ev nm n0 bm m hB hN
  clear hN hB CN
  go_wp2_with fail
  go_loopg [9, 10] m (fun kx s s10 wr => ∃ (k : Nat) (E F : Nat → Nat), k ≤ m ∧ s = .int .i64 k ∧ m - k ≤ kx ∧ Hid (HBi ev nm n0 w bm w1.heap.size (w1.heap.size + 1) (w1.heap.size + 2) m E F k wr))
  case atStart => exact ⟨0, _, _, Nat.zero_le _, rfl, by omega, S0⟩
  case round =>
    clear S0 hmk1 hmm
    obtain ⟨k, E, F, hk, rfl, hkx, S⟩ := hrel
    by_cases hlt : k < m
    · obtain ⟨cs, hcs⟩ : ∃ cs : Array Value, cs = #[.string { data := #[104, 101, 114, 101] }, .pointer none, .int .u32 0, .int .u32 0, .slice none 0 0, .int .u64 0, .string { data := #[] }, .string { data := #[] }, .int .i64 0, .slice none 0 0, .int .u8 0, .string { data := #[] }, .pointer none] := ⟨_, rfl⟩
      have B1 : Below wr.heap.size wr (wr.alloc (.cells cs 75)) := below_alloc wr _
      have E1 : (wr.alloc (.cells cs 75)).heap[wr.heap.size]? = some (.cells cs 75 (0, 0)) := by show (wr.heap.push _)[wr.heap.size]? = _; simp
      have c12 : cs[12]? = some (.pointer none) := by rw [hcs]; rfl
      obtain ⟨b1, o1, ha1, X⟩ := (H1.out.below (S.out.bel.trans (B1.mono S.out.bel.size))).at_.at hlt
      subst ha1
      cases hrv : (ev k).rv with
      | false =>
        have x0 := X.c0
        rw [hrv] at x0
        obtain ⟨⟨v0, c0'⟩, t0, W4, hst, E', F', S'⟩ := S.out.step hlt B1 (cs := cs) (F0 := 0) E1 (by rw [c12, hrv]; rfl) (fun h => by rw [hrv] at h; cases h)
        have HS' : Hid _ := S'
        clear S S' X hrv c12 E1 B1 H1
        subst hcs
        go_wp2
        go_roundg (m - (k + 1))
        case measure => omega
        case rel => exact ⟨k + 1, E', F', by omega, by go_num, Nat.le_refl _, HS'⟩
      | true =>
        have x0 := X.c0
        rw [hrv] at x0
        obtain ⟨-, x1, x2, x3, x4, x5, x6⟩ := X
        have CE : Hid (Calls Try.prog 13 #[.slice a0 n0 c0, .map (some bm), .agg #[.string (ev k).host, .int .u64 (ev k).lam, .bool (ev k).z, .int .u32 (ev k).own, .int .u32 (ev k).nn, .slice (ev k).a (ev k).len (ev k).cap]] (wr.alloc (.cells cs 75)) fun e w' =>
            ∃ eb hp ka kc, e = .returned (.pointer (some ⟨eb, 0, none⟩)) ∧ EvLog w' eb (ev k).host (ev k).lam hp (ev k).clk ka kc bm n0 nm ∧ Below (wr.alloc (.cells cs 75)).heap.size (wr.alloc (.cells cs 75)) w' ∧ EvFresh (wr.alloc (.cells cs 75)).heap.size eb hp ka) :=
          buildEvent_any2 a0 n0 c0 bm n0 (ev k).host (ev k).lam (ev k).z (ev k).own (ev k).nn (ev k).a (ev k).len (ev k).cap (ev k).hs (ev k).cn nm _ (((H1.out.below (S.out.bel.trans (B1.mono S.out.bel.size))).at_.raw k hlt).toIn (H1.out.len k hlt) (H1.out.ok k hlt hrv)) (H1.out.at_.raw k hlt).host
        have HR : Hid ((ev k).rv = true) := hrv
        have HC : Hid (cs[12]? = some (.pointer none)) := c12
        clear hrv c12 E1 B1 H1
        subst hcs
        go_wp2_with fail
        refine CE.out.mono ?_
        rintro e w2 ⟨eb, hp, ka, kc, rfl, hL, hB2, hfr⟩
        obtain ⟨d12, t12, ⟨v0, c0'⟩, t0, W4, hst, E', F', S'⟩ := S.out.recv hlt HC.out hB2 hL hfr HR.out
        have HS' : Hid _ := S'
        clear S S' HC HR CE hL hB2 hfr
        go_wp2
        go_roundg (m - (k + 1))
        case measure => omega
        case rel => exact ⟨k + 1, E', F', by omega, by go_num, Nat.le_refl _, HS'⟩
    · obtain rfl : k = m := by omega
      go_wp2
      go_ret2
      exact ⟨bm, _, _, E, F, rfl, S.out.log, S.out.row.rdk (Nat.le_refl _), S.out.map, S.out.bel⟩

end Go.Proofs.Qxb6609005a
