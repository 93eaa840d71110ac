import Derived.Test.Qxb6609005aD2
import Derived.Test.Qxb6609005aOpen2
import Derived.LaidEqlPtr
namespace Go.Proofs.Qxb6609005a
open Go.RowKit Go.WideMaps Go.Maps Go.Sort
set_option linter.unusedSimpArgs false
set_option linter.unusedVariables false
set_option linter.unusedSectionVars false

/-- a pointer to an event is itself -/
theorem neq_same (p : Option Addr) (w : World) : (binOp .neq 35 (.pointer p) (.pointer p)).run Try.prog w = .ok (.bool false) w := by
  have hte : Try.prog.info? 75 = some Try.t75 := by kernel_rfl
  have hs75 : Try.t75.size = 13 := by kernel_rfl
  have h : ∀ d : Nat, (Op.equalIn (d + 1) 35 (.pointer p) (.pointer p)).run Try.prog w = .ok true w := fun d => by
    cases p with
    | none => simp [Op.equalIn, run_underlying Try.underlying35]
    | some a => simp [Op.equalIn, run_underlying Try.underlying35, sizeOf, typeInfo, hte, run_sameAddr_same]
  simp only [binOp]
  simp [Op.equal, Op.maxDepth, h 9999]

/-- what pick gives -/
def pkp (m : Nat) (E : Nat → Nat) (x : Int) : Option Addr := if 0 ≤ x ∧ x < m then some ⟨E x.toNat, 0, none⟩ else none
theorem pk_eq (m : Nat) (E : Nat → Nat) (x : Int) : pk m E x = .pointer (pkp m E x) := rfl

theorem RdI.below {w w' : World} {a : Option Addr} {N : Nat} {x y : Nat → Int} (h : RdI w a N x y) (B : Below w.heap.size w w') : RdI w' a N x y := by
  rcases h with h | ⟨b, o, h1, h2, h3⟩
  · exact .inl h
  · exact .inr ⟨b, o, h1, Nat.lt_of_lt_of_le h2 B.size, fun t ht => by rw [B.cell h2, B.cell h2]; exact h3 t ht⟩
theorem RdI.at {w : World} {a : Option Addr} {N : Nat} {x y : Nat → Int} (h : RdI w a N x y) {t : Nat} (ht : t < N) : ∃ b o, a = some ⟨b, o, none⟩ ∧ w.cell? ⟨b, o + t * 2, none⟩ = some (.int .i64 (x t)) ∧ w.cell? ⟨b, o + t * 2 + 1, none⟩ = some (.int .i64 (y t)) := by
  rcases h with h | ⟨b, o, h1, h2, h3⟩
  · omega
  · exact ⟨b, o, h1, h3 t ht⟩

/-- the prefix while it is filled -/
def Pre (w : World) (b n : Nat) (x y : Nat → Value) (k : Nat) : Prop := ∃ f, Own w b (n * 2) f ∧ ∀ i, i < k → f (i * 2) = x i ∧ f (i * 2 + 1) = y i
theorem Pre.set {w : World} {b n : Nat} {x y : Nat → Value} {k : Nat} (h : Pre w b n x y k) (hk : k < n) : Pre ((w.setCell ⟨b, k * 2, none⟩ (x k)).setCell ⟨b, k * 2 + 1, none⟩ (y k)) b n x y (k + 1) := by
  obtain ⟨f, hf, hx⟩ := h
  refine ⟨_, (hf.set (k * 2) (by omega) _).set (k * 2 + 1) (by omega) _, fun i hi => ?_⟩
  by_cases e : i = k
  · subst e; simp
  · obtain ⟨h1, h2⟩ := hx i (by omega)
    simp only [show i * 2 ≠ k * 2 + 1 by omega, show i * 2 ≠ k * 2 by omega, show i * 2 + 1 ≠ k * 2 + 1 by omega, show i * 2 + 1 ≠ k * 2 by omega, if_false]
    exact ⟨h1, h2⟩
theorem Pre.drewN {w : World} {b n : Nat} {x y : Nat → Value} {k : Nat} (h : Pre w b n x y k) (j : Nat) : Pre (w.drewN j) b n x y k := by
  obtain ⟨f, hf, hx⟩ := h
  exact ⟨f, hf.drewN j, hx⟩
theorem Pre.drew {w : World} {b n : Nat} {x y : Nat → Value} {k : Nat} (h : Pre w b n x y k) : Pre w.drew b n x y k := by
  obtain ⟨f, hf, hx⟩ := h
  exact ⟨f, hf.drew, hx⟩
theorem Pre.made (w : World) (n : Nat) (x y : Nat → Value) (z : Array Value) (e : TypeId) : Pre (w.alloc (.cells (madeCells z (n * 2)) e)) w.heap.size n x y 0 := ⟨_, Own.made w z (n * 2) e, fun i hi => by omega⟩
theorem Pre.cells {w : World} {b n : Nat} {x y : Nat → Value} {k : Nat} (h : Pre w b n x y k) (hk : k < n) : ∃ u v, w.cell? ⟨b, k * 2, none⟩ = some u ∧ w.cell? ⟨b, k * 2 + 1, none⟩ = some v ∧ w.frozen? ⟨b, k * 2, none⟩ = false ∧ w.frozen? ⟨b, k * 2 + 1, none⟩ = false := by
  obtain ⟨f, hf, hx⟩ := h
  exact ⟨_, _, hf.cell _ (by omega), hf.cell _ (by omega), hf.thaw _, hf.thaw _⟩
theorem Pre.came {w : World} {b n : Nat} {x y : Nat → Value} (h : Pre w b n x y n) : Came w (.slice (some ⟨b, 0, none⟩) n n) n (flat2 ((List.range n).map fun i => (x i, y i))) := by
  obtain ⟨f, hf, hx⟩ := h
  refine .inr ⟨b, 0, rfl, by rw [flat2_len]; simp, hf.lt, fun j u hj => ?_⟩
  have hl := (List.getElem?_eq_some_iff.1 hj).1
  rw [flat2_len] at hl
  simp only [List.length_map, List.length_range] at hl
  rw [Nat.zero_add, hf.cell j hl]
  have hq : j / 2 < n := by omega
  have hp : ((List.range n).map fun i => (x i, y i))[j / 2]? = some (x (j / 2), y (j / 2)) := by
    rw [List.getElem?_map, List.getElem?_range hq]; rfl
  obtain ⟨q1, q2⟩ := flat2_at _ _ _ hp
  obtain ⟨f1, f2⟩ := hx _ hq
  rcases Nat.mod_two_eq_zero_or_one j with e | e
  · have ej : j = j / 2 * 2 := by omega
    rw [← ej] at q1 f1
    rw [q1] at hj
    rw [f1]; exact hj
  · have ej : j = j / 2 * 2 + 1 := by omega
    rw [← ej] at q2 f2
    rw [q2] at hj
    rw [f2]; exact hj

/-- what violationsOn gave, to be read -/
def GotAt (g : Log) (w : World) (ag : Option Addr) (NG N0 m : Nat) (x y : Nat → Value) (T L : Nat → Nat) (GG : Nat → Nat → Nat) : Prop :=
  NG = 0 ∨ ∃ b o, ag = some ⟨b, o, none⟩ ∧ b < w.heap.size ∧ (∀ t, t < N0 → w.cell? ⟨b, o + t * 2, none⟩ = some (x t) ∧ w.cell? ⟨b, o + t * 2 + 1, none⟩ = some (y t)) ∧
    ∀ i s, i < m → s < L i → w.cell? ⟨b, o + (N0 + T i + s) * 2, none⟩ = some (g.pt i) ∧ w.cell? ⟨b, o + (N0 + T i + s) * 2 + 1, none⟩ = some (g.pt (GG i s))
theorem GotAt.below {g : Log} {w w' : World} {ag : Option Addr} {NG N0 m : Nat} {x y : Nat → Value} {T L : Nat → Nat} {GG : Nat → Nat → Nat} (h : GotAt g w ag NG N0 m x y T L GG) (B : Below w.heap.size w w') : GotAt g w' ag NG N0 m x y T L GG := by
  rcases h with h | ⟨b, o, h1, h2, h3, h4⟩
  · exact .inl h
  · refine .inr ⟨b, o, h1, Nat.lt_of_lt_of_le h2 B.size, fun t ht => ?_, fun i s hi hs => ?_⟩
    · rw [B.cell h2, B.cell h2]; exact h3 t ht
    · rw [B.cell h2, B.cell h2]; exact h4 i s hi hs
theorem GotAt.congr {g : Log} {w : World} {ag : Option Addr} {NG N0 m : Nat} {x y : Nat → Value} {T L T' L' : Nat → Nat} {GG : Nat → Nat → Nat} (h : GotAt g w ag NG N0 m x y T L GG) (hT : ∀ i, i < m → T i = T' i) (hL : ∀ i, i < m → L i = L' i) : GotAt g w ag NG N0 m x y T' L' GG := by
  rcases h with h | ⟨b, o, h1, h2, h3, h4⟩
  · exact .inl h
  · refine .inr ⟨b, o, h1, h2, h3, fun i s hi hs => ?_⟩
    rw [← hT i hi]
    exact h4 i s hi (by rw [hL i hi]; exact hs)

/-- what violationsOn gives for a prefix -/
def Vpre (g : Log) (fifo : Bool) (N0 : Nat) (x y : Nat → Value) (w : World) (e : Ending) (w' : World) : Prop :=
  ∃ ag NG cg G, e = .returned (.slice ag NG cg) ∧ GOk g fifo g.m G ∧ NG = N0 + allN G g.m ∧ GotAt g w' ag NG N0 g.m x y (allN G) (fun i => (G i).length) (fun i s => (G i)[s]?.getD 0) ∧ Below w.heap.size w w'

theorem vpre_any (g : Log) (w : World) (a0 : Option Addr) (c0 : Nat) (d : Int) (b N0 : Nat) (x y : Nat → Value) (LB : LogAt w g) (hR : Rd w a0 g.m (fun i => g.pt i)) (hm : g.m ≤ 1024) (hP : Pre w b N0 x y N0) (hN : N0 ≤ 65536) (hd : d = 1 ∨ d = 2) :
    Calls Try.prog 22 #[.slice a0 g.m c0, .int .u8 d, .slice (some ⟨b, 0, none⟩) N0 N0] w fun e w' => Vpre g (decide (d = 1)) N0 x y w e w' := by
  refine (zzViol_any g w a0 c0 d (.slice (some ⟨b, 0, none⟩) N0 N0) N0 _ LB hR hm hP.came hN hd).mono ?_
  rintro e w' ⟨v', rfl, H⟩
  obtain ⟨G, R⟩ := H.res (ps0 := (List.range N0).map fun i => (x i, y i)) rfl (by simp)
  obtain ⟨a, c, rfl, h2⟩ := R.two
  have hlen : ((List.range N0).map (fun i => (x i, y i)) ++ (pl G g.m).map g.pp).length = N0 + allN G g.m := by rw [List.length_append, List.length_map, List.length_map, List.length_range, pl_len]
  refine ⟨a, _, c, G, rfl, R.ok, hlen, ?_, R.bel⟩
  rcases h2 with h | ⟨b, o, h1, h3, h4⟩
  · exact .inl h
  · refine .inr ⟨b, o, h1, h3, fun t ht => ?_, fun i s hi hs => ?_⟩
    · exact h4 t (x t, y t) (by rw [List.getElem?_append_left (by simpa using ht), List.getElem?_map, List.getElem?_range ht]; rfl)
    · have := pl_at (k := g.m) hi hs
      have := h4 (N0 + allN G i + s) (g.pp (i, (G i)[s])) (by
        rw [List.getElem?_append_right (by simp; omega), List.length_map, List.length_range, show N0 + allN G i + s - N0 = allN G i + s by omega, List.getElem?_map, this]; rfl)
      simp only [List.getElem?_eq_getElem hs]
      exact this

/-- what stands at the head of the loops of the law on each overtaken receive -/
structure Fx5 (nm : Nat → ByteArray) (n0 : Nat) (a1 : Option Addr) (m : Nat) (ev : Nat → Ev) (fifo : Bool) (g : Log) (W : World) (pb hr gi go : Nat) (a3 : Option Addr) (N0 : Nat) (fe fl : Nat → Int) (ag : Option Addr) (NG : Nat) (GG : Nat → Nat → Nat) (w : World) : Prop where
  bel : Below W.heap.size W w
  evs : EvsOk w a1 m n0 ev
  log : LogAt w g
  gm : g.m = m
  pos : AMap w pb g.pt (fun i => i < g.m) (fun i => some (.int .i64 (i : Nat)))
  hrow : Rd w (some ⟨hr, 0, none⟩) m (fun i => .pointer (some ⟨g.E i, 0, none⟩))
  ixr : Rd w (some ⟨gi, 0, none⟩) m (fun k => .int .i64 ((ev k).ix nm n0))
  onr : Rd w (some ⟨go, 0, none⟩) m (fun k => .int .u64 ((ev k).on nm n0))
  fnd : RdI w a3 N0 fe fl
  got : GotAt g w ag NG N0 m (fun t => pk m g.E (fe t)) (fun t => pk m g.E (fl t)) (tot (ovB nm n0 ev fifo) m) (fun i => cnB (ovB nm n0 ev fifo i) m) GG
  ng : NG = N0 + tot (ovB nm n0 ev fifo) m m
  mem : ∀ i s, i < m → s < cnB (ovB nm n0 ev fifo i) m → GG i s < m ∧ ovB nm n0 ev fifo i (GG i s) = true
  inj : ∀ i s t, i < m → s < t → t < cnB (ovB nm n0 ev fifo i) m → GG i s ≠ GG i t
  srt : ∀ i s, i < m → s + 1 < cnB (ovB nm n0 ev fifo i) m → keyB (ev (GG i (s + 1))).lam (ev (GG i s)).lam (ev (GG i (s + 1))).host (ev (GG i s)).host = false

theorem Fx5.below {nm : Nat → ByteArray} {n0 : Nat} {a1 : Option Addr} {m : Nat} {ev : Nat → Ev} {fifo : Bool} {g : Log} {W : World} {pb hr gi go : Nat} {a3 : Option Addr} {N0 : Nat} {fe fl : Nat → Int} {ag : Option Addr} {NG : Nat} {GG : Nat → Nat → Nat} {w w' : World}
    (h : Fx5 nm n0 a1 m ev fifo g W pb hr gi go a3 N0 fe fl ag NG GG w) (B : Below w.heap.size w w') : Fx5 nm n0 a1 m ev fifo g W pb hr gi go a3 N0 fe fl ag NG GG w' :=
  ⟨h.bel.trans (B.mono h.bel.size), h.evs.below B, h.log.below B, h.gm, h.pos.keep (B.block _ h.pos.lt), h.hrow.below B, h.ixr.below B, h.onr.below B, h.fnd.below B, h.got.below B, h.ng, h.mem, h.inj, h.srt⟩

section
variable {nm : Nat → ByteArray} {n0 : Nat} {ev : Nat → Ev} {bm : Nat} {E F : Nat → Nat} {m : Nat} {fifo : Bool} {G : Nat → List Nat}
theorem gg_mem (h : GOk (lg ev nm n0 bm E F m) fifo m G) : ∀ i s, i < m → s < cnB (ovB nm n0 ev fifo i) m → (G i)[s]?.getD 0 < m ∧ ovB nm n0 ev fifo i ((G i)[s]?.getD 0) = true := fun i s hi hs => by
  rw [← h.len hi] at hs
  rw [List.getElem?_eq_getElem hs]
  exact (h.mem hi).1 (List.getElem_mem hs)
theorem gg_inj (h : GOk (lg ev nm n0 bm E F m) fifo m G) : ∀ i s t, i < m → s < t → t < cnB (ovB nm n0 ev fifo i) m → (G i)[s]?.getD 0 ≠ (G i)[t]?.getD 0 := fun i s t hi hst ht => by
  rw [← h.len hi] at ht
  have hs : s < (G i).length := by omega
  rw [List.getElem?_eq_getElem hs, List.getElem?_eq_getElem ht]
  intro e
  have := (List.getElem_inj (h₀ := hs) (h₁ := ht) (h.nodup hi)).1 (by simpa using e)
  omega
theorem gg_srt (h : GOk (lg ev nm n0 bm E F m) fifo m G) : ∀ i s, i < m → s + 1 < cnB (ovB nm n0 ev fifo i) m → keyB (ev ((G i)[s + 1]?.getD 0)).lam (ev ((G i)[s]?.getD 0)).lam (ev ((G i)[s + 1]?.getD 0)).host (ev ((G i)[s]?.getD 0)).host = false := fun i s hi hs => by
  rw [← h.len hi] at hs
  have hs0 : s < (G i).length := by omega
  have := h.sorted i hi s (s + 1) (by omega) hs
  rw [getElem!_pos (G i) _ hs, getElem!_pos (G i) _ hs0] at this
  rw [List.getElem?_eq_getElem hs, List.getElem?_eq_getElem hs0]
  exact this
end

/-- the counts while they are made: those of the events before i, and c of event i -/
def Cnt (w : World) (cb m : Nat) (p : Nat → Nat → Bool) (i c : Nat) : Prop := Own w cb m (fun k => .int .i64 ((if k < i then cnB (p k) m else if k = i then c else 0 : Nat) : Int))
theorem Cnt.start (w : World) (m : Nat) (p : Nat → Nat → Bool) : Cnt (w.alloc (.cells (madeCells #[.int .i64 0] m) 3)) w.heap.size m p 0 0 := by
  refine (Own.made w #[.int .i64 0] m 3).congr fun k hk => ?_
  simp [Nat.mod_one]
theorem Cnt.below {w w' : World} {B cb m : Nat} {p : Nat → Nat → Bool} {i c : Nat} (h : Cnt w cb m p i c) (k : Below B w w') (hB : cb < B) : Cnt w' cb m p i c := Own.below h k hB
theorem Cnt.cellI {w : World} {cb m : Nat} {p : Nat → Nat → Bool} {i c : Nat} (h : Cnt w cb m p i c) (hi : i < m) : w.cell? ⟨cb, i, none⟩ = some (.int .i64 (c : Nat)) ∧ w.frozen? ⟨cb, i, none⟩ = false := by
  refine ⟨?_, h.thaw i⟩
  rw [h.cell i hi]; simp
theorem Cnt.inc {w : World} {cb m : Nat} {p : Nat → Nat → Bool} {i c : Nat} (h : Cnt w cb m p i c) (hi : i < m) : Cnt (w.setCell ⟨cb, i, none⟩ (.int .i64 ((c : Int) + 1))) cb m p i (c + 1) := by
  refine (Own.set h i hi _).congr fun k hk => ?_
  by_cases e : k = i
  · subst e; simp
  · simp [e]
theorem Cnt.next {w : World} {cb m : Nat} {p : Nat → Nat → Bool} {i c : Nat} (h : Cnt w cb m p i c) (hc : c = cnB (p i) m) : Cnt w cb m p (i + 1) 0 := by
  refine Own.congr h fun k hk => ?_
  by_cases e : k = i
  · subst e; simp [hc]
  · by_cases e2 : k < i
    · simp [e2, show k < i + 1 by omega]
    · simp [e, e2, show ¬ k < i + 1 by omega]
theorem Cnt.done {w : World} {cb m : Nat} {p : Nat → Nat → Bool} {i : Nat} (h : Cnt w cb m p m 0) (hi : i < m) : w.cell? ⟨cb, i, none⟩ = some (.int .i64 (cnB (p i) m : Nat)) := by
  rw [h.cell i hi]; simp [hi]

/-- the marks while event i's pairs are read: s of them are done -/
def Mks (w : World) (mb m : Nat) (GG : Nat → Nat → Nat) (i s : Nat) : Prop :=
  ∃ mk : Nat → Nat, Own w mb m (fun k => .int .i64 (mk k : Nat)) ∧ ∀ k, k < m → mk k ≤ i ∨ (mk k = i + 1 ∧ ∃ r, r < s ∧ GG i r = k)
theorem Mks.start (w : World) (m : Nat) (GG : Nat → Nat → Nat) : Mks (w.alloc (.cells (madeCells #[.int .i64 0] m) 3)) w.heap.size m GG 0 0 :=
  ⟨fun _ => 0, (Own.made w #[.int .i64 0] m 3).congr fun k hk => by simp [Nat.mod_one], fun k hk => .inl (Nat.le_refl _)⟩
theorem Mks.below {w w' : World} {B mb m : Nat} {GG : Nat → Nat → Nat} {i s : Nat} (h : Mks w mb m GG i s) (k : Below B w w') (hB : mb < B) : Mks w' mb m GG i s := by
  obtain ⟨mk, h1, h2⟩ := h
  exact ⟨mk, Own.below h1 k hB, h2⟩
theorem Mks.next {w : World} {mb m : Nat} {GG : Nat → Nat → Nat} {i s : Nat} (h : Mks w mb m GG i s) : Mks w mb m GG (i + 1) 0 := by
  obtain ⟨mk, h1, h2⟩ := h
  refine ⟨mk, h1, fun k hk => .inl ?_⟩
  rcases h2 k hk with h | ⟨h, _⟩ <;> omega
theorem Mks.cellJ {w : World} {mb m : Nat} {GG : Nat → Nat → Nat} {i s : Nat} (h : Mks w mb m GG i s) {j : Nat} (hj : j < m) (hno : ∀ r, r < s → GG i r ≠ j) : ∃ x : Nat, x ≤ i ∧ w.cell? ⟨mb, j, none⟩ = some (.int .i64 (x : Nat)) ∧ w.frozen? ⟨mb, j, none⟩ = false := by
  obtain ⟨mk, h1, h2⟩ := h
  refine ⟨mk j, ?_, h1.cell j hj, h1.thaw j⟩
  rcases h2 j hj with h | ⟨_, r, hr, e⟩
  · exact h
  · exact absurd e (hno r hr)
theorem Mks.set {w : World} {mb m : Nat} {GG : Nat → Nat → Nat} {i s : Nat} (h : Mks w mb m GG i s) (hj : GG i s < m) : Mks (w.setCell ⟨mb, GG i s, none⟩ (.int .i64 ((i : Int) + 1))) mb m GG i (s + 1) := by
  obtain ⟨mk, h1, h2⟩ := h
  refine ⟨fun k => if k = GG i s then i + 1 else mk k, (Own.set h1 _ hj _).congr fun k hk => ?_, fun k hk => ?_⟩
  · by_cases e : k = GG i s
    · simp [e]
    · simp [e]
  · by_cases e : k = GG i s
    · simp only [e, if_true]
      exact .inr ⟨trivial, s, by omega, rfl⟩
    · simp only [e, if_false]
      rcases h2 k hk with h | ⟨h, r, hr, e⟩
      · exact .inl h
      · exact .inr ⟨h, r, by omega, e⟩

end Go.Proofs.Qxb6609005a
