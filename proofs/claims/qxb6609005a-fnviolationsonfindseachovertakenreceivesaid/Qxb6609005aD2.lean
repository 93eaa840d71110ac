import Derived.Test.Qxb6609005aD1
namespace Go.Proofs.Qxb6609005a
open Go.RowKit Go.WideMaps Go.Maps Go.Sort
set_option linter.unusedSimpArgs false
set_option linter.unusedVariables false
set_option linter.unusedSectionVars false

/-- pairs of events, to be read by positions -/
def RdP (g : Log) (w : World) (a : Option Addr) (N : Nat) (p : Nat → Nat × Nat) : Prop :=
  N = 0 ∨ ∃ b o, a = some ⟨b, o, none⟩ ∧ b < w.heap.size ∧ ∀ t, t < N → w.cell? ⟨b, o + t * 2, none⟩ = some (g.pt (p t).1) ∧ w.cell? ⟨b, o + t * 2 + 1, none⟩ = some (g.pt (p t).2)
theorem RdP.below {g : Log} {w w' : World} {a : Option Addr} {N : Nat} {p : Nat → Nat × Nat} (h : RdP g w a N p) (B : Below w.heap.size w w') : RdP g w' a N p := by
  rcases h with h | ⟨b, o, h1, h2, h3⟩
  · exact .inl h
  · exact .inr ⟨b, o, h1, Nat.lt_of_lt_of_le h2 B.size, fun t ht => by rw [B.cell h2, B.cell h2]; exact h3 t ht⟩
theorem RdP.at {g : Log} {w : World} {a : Option Addr} {N : Nat} {p : Nat → Nat × Nat} (h : RdP g w a N p) {t : Nat} (ht : t < N) : ∃ b o, a = some ⟨b, o, none⟩ ∧ w.cell? ⟨b, o + t * 2, none⟩ = some (g.pt (p t).1) ∧ w.cell? ⟨b, o + t * 2 + 1, none⟩ = some (g.pt (p t).2) := by
  rcases h with h | ⟨b, o, h1, h2, h3⟩
  · omega
  · exact ⟨b, o, h1, h3 t ht⟩

/-- what violationsOn gives for no prefix -/
def Vio (g : Log) (fifo : Bool) (w : World) (e : Ending) (w' : World) : Prop :=
  ∃ a N c p G, e = .returned (.slice a N c) ∧ GOk g fifo g.m G ∧ RdP g w' a N p ∧ N = allN G g.m ∧ (∀ t, t < N → p t ∈ pl G g.m) ∧ (∀ q ∈ pl G g.m, ∃ t, t < N ∧ p t = q) ∧ Below w.heap.size w w'

theorem vio_any (g : Log) (w : World) (a0 : Option Addr) (c0 : Nat) (d : Int) (LB : LogAt w g) (hR : Rd w a0 g.m (fun i => g.pt i)) (hm : g.m ≤ 1024) (hd : d = 1 ∨ d = 2) :
    Calls Try.prog 22 #[.slice a0 g.m c0, .int .u8 d, .slice none 0 0] w fun e w' => Vio g (decide (d = 1)) w e w' := by
  refine (zzViol_any g w a0 c0 d (.slice none 0 0) 0 [] LB hR hm (.inl ⟨rfl, rfl, rfl⟩) (by omega) hd).mono ?_
  rintro e w' ⟨v', rfl, H⟩
  obtain ⟨G, R⟩ := H.res (ps0 := []) rfl rfl
  obtain ⟨a, c, rfl, h2⟩ := R.two
  simp only [List.nil_append, List.length_map] at h2 ⊢
  refine ⟨a, (pl G g.m).length, c, fun t => (pl G g.m)[t]?.getD (0, 0), G, rfl, R.ok, ?_, pl_len _ _, ?_, ?_, R.bel⟩
  · rcases h2 with h | ⟨b, o, h1, h3, h4⟩
    · exact .inl h
    · refine .inr ⟨b, o, h1, h3, fun t ht => ?_⟩
      have := h4 t (g.pp (pl G g.m)[t]) (by rw [List.getElem?_map, List.getElem?_eq_getElem ht]; rfl)
      simp only [List.getElem?_eq_getElem ht]
      exact this
  · intro t ht
    simp only
    rw [List.getElem?_eq_getElem ht]
    exact List.getElem_mem _
  · intro q hq
    obtain ⟨t, ht, e⟩ := List.getElem_of_mem hq
    refine ⟨t, ht, ?_⟩
    simp only
    rw [List.getElem?_eq_getElem ht]
    exact e

/-- how many pairs the first i events have -/
def tot (p : Nat → Nat → Bool) (m : Nat) : Nat → Nat
  | 0 => 0
  | i + 1 => tot p m i + cnB (p i) m
theorem tot_le (p : Nat → Nat → Bool) (m : Nat) : ∀ i, tot p m i ≤ i * m
  | 0 => by simp [tot]
  | i + 1 => by
    have h1 := tot_le p m i
    have h2 := cnB_le (p i) m
    rw [tot, Nat.succ_mul]; omega
theorem allN_tot {nm : Nat → ByteArray} {n0 : Nat} {ev : Nat → Ev} {bm : Nat} {E F : Nat → Nat} {m : Nat} {fifo : Bool} {G : Nat → List Nat} (h : GOk (lg ev nm n0 bm E F m) fifo m G) : ∀ k, k ≤ m → allN G k = tot (ovB nm n0 ev fifo) m k
  | 0, _ => rfl
  | k + 1, hk => by rw [allN_succ, allN_tot h k (by omega), tot, h.len (by omega)]

/-- what stands at the head of the loops of the fifo law -/
structure Fx6 (nm : Nat → ByteArray) (n0 : Nat) (a1 : Option Addr) (m : Nat) (ev : Nat → Ev) (g : Log) (W : World) (pb go : Nat) (af : Option Addr) (NF : Nat) (pf : Nat → Nat × Nat) (ac : Option Addr) (NC : Nat) (pc : Nat → Nat × Nat) (w : World) : Prop where
  bel : Below W.heap.size W w
  evs : EvsOk w a1 m n0 ev
  log : LogAt w g
  gm : g.m = m
  pos : AMap w pb g.pt (fun i => i < g.m) (fun i => some (.int .i64 (i : Nat)))
  onr : Rd w (some ⟨go, 0, none⟩) m (fun k => .int .u64 ((ev k).on nm n0))
  fif : RdP g w af NF pf
  cau : RdP g w ac NC pc
  fdom : ∀ t, t < NF → (pf t).1 < m ∧ (pf t).2 < m
  cdom : ∀ t, t < NC → (pc t).1 < m ∧ (pc t).2 < m
  fin : ∀ t, t < NF → ∃ s, s < NC ∧ pc s = pf t
  tot : NF = tot (ovB nm n0 ev true) m m
  ncb : NC ≤ m * m

theorem Fx6.below {nm : Nat → ByteArray} {n0 : Nat} {a1 : Option Addr} {m : Nat} {ev : Nat → Ev} {g : Log} {W : World} {pb go : Nat} {af : Option Addr} {NF : Nat} {pf : Nat → Nat × Nat} {ac : Option Addr} {NC : Nat} {pc : Nat → Nat × Nat} {w w' : World}
    (h : Fx6 nm n0 a1 m ev g W pb go af NF pf ac NC pc w) (B : Below w.heap.size w w') : Fx6 nm n0 a1 m ev g W pb go af NF pf ac NC pc w' :=
  ⟨h.bel.trans (B.mono h.bel.size), h.evs.below B, h.log.below B, h.gm, h.pos.keep (B.block _ h.pos.lt), h.onr.below B, h.fif.below B, h.cau.below B, h.fdom, h.cdom, h.fin, h.tot, h.ncb⟩

/-- posOf's answer -/
theorem pos_look {g : Log} {w : World} {pb : Nat} (hp : AMap w pb g.pt (fun i => i < g.m) (fun i => some (.int .i64 (i : Nat)))) (L : LogAt w g) {i : Nat} (hi : i < g.m) :
    (Instr.lookup 45 (.map (some pb)) (g.pt i) true).run Try.prog w = .ok (.tuple #[.int .i64 (i : Nat), .bool true]) w ∧ (Instr.lookup 45 (.map (some pb)) (g.pt i) false).run Try.prog w = .ok (.int .i64 (i : Nat)) w := by
  have := hp.look Try.underlying45 Try.underlying35 notnow_ptr (eqok_log L) (checks_ptr g) (zero3 _) hi
  exact ⟨this.2, this.1⟩

end Go.Proofs.Qxb6609005a
