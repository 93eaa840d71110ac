import Derived.Test.Qxb6609005aS10
import Derived.Test.Qxb6609005aA1
namespace Go.Proofs.Qxb6609005a
open Go.RowKit Go.WideMaps Go.Maps Go.Sort
set_option linter.unusedSimpArgs false
set_option linter.unusedVariables false
set_option linter.unusedSectionVars false

/-- the events of a host as they lie: event k at block E k; a receive's send at block F k -/
structure Log where
  m : Nat
  E : Nat → Nat
  F : Nat → Nat
  rv : Nat → Bool
  ho : Nat → ByteArray
  la : Nat → Int
  ck : Nat → Clk
  bm : Nat
  n : Nat
  nm : Nat → ByteArray

/-- the count that event i's send has of host s -/
def Log.cnt (g : Log) (i : Nat) (s : ByteArray) : Int := cH g.nm g.n (g.ck i) s
/-- .. of its own host -/
def Log.own (g : Log) (i : Nat) : Int := g.cnt i (g.ho i)
/-- the pointer to event i -/
def Log.pt (g : Log) (i : Nat) : Value := .pointer (some ⟨g.E i, 0, none⟩)
/-- event i's From -/
def Log.fr (g : Log) (i : Nat) : Value := .pointer (if g.rv i = true then some ⟨g.F i, 0, none⟩ else none)

structure LogAt (w : World) (g : Log) : Prop where
  map : NumMap w g.bm g.nm g.n
  inj : ∀ i j, i < g.m → j < g.m → g.E i = g.E j → i = j
  whole : ∀ i, i < g.m → ∃ cs, w.heap[g.E i]? = some (.cells cs 75 (0, 0)) ∧ cs[12]? = some (g.fr i)
  sent : ∀ i, i < g.m → g.rv i = true → ∃ hp ka kc, EvLog w (g.F i) (g.ho i) (g.la i) hp (g.ck i) ka kc g.bm g.n g.nm

theorem LogAt.lt {w : World} {g : Log} (h : LogAt w g) {i : Nat} (hi : i < g.m) : g.E i < w.heap.size := by
  obtain ⟨cs, h1, _⟩ := h.whole i hi
  exact (Array.getElem?_eq_some_iff.1 h1).1
theorem LogAt.below {w w' : World} {g : Log} (h : LogAt w g) (k : Below w.heap.size w w') : LogAt w' g :=
  ⟨h.map.below k, h.inj, fun i hi => by
    obtain ⟨cs, h1, h2⟩ := h.whole i hi
    exact ⟨cs, by rw [k.block _ (h.lt hi)]; exact h1, h2⟩, fun i hi hr => by
    obtain ⟨hp, ka, kc, he⟩ := h.sent i hi hr
    exact ⟨hp, ka, kc, he.below k⟩⟩
theorem LogAt.cell {w : World} {g : Log} (h : LogAt w g) {i : Nat} (hi : i < g.m) : w.cell? ⟨g.E i, 12, none⟩ = some (g.fr i) := by
  obtain ⟨cs, h1, h2⟩ := h.whole i hi
  simp [World.cell?, h1, h2]
theorem LogAt.cellR {w : World} {g : Log} (h : LogAt w g) {i : Nat} (hi : i < g.m) (hr : g.rv i = true) : w.cell? ⟨g.E i, 12, none⟩ = some (.pointer (some ⟨g.F i, 0, none⟩)) := by
  rw [h.cell hi]; simp [Log.fr, hr]
theorem LogAt.cellN {w : World} {g : Log} (h : LogAt w g) {i : Nat} (hi : i < g.m) (hr : g.rv i = false) : w.cell? ⟨g.E i, 12, none⟩ = some (.pointer none) := by
  rw [h.cell hi]; simp [Log.fr, hr]

set_option maxRecDepth 100000 in
set_option maxHeartbeats 1000000 in
theorem own_any (g : Log) (i : Nat) (w : World) (L : LogAt w g) (hi : i < g.m) (hr : g.rv i = true) :
    Calls Try.prog 43 #[.pointer (some ⟨g.E i, 0, none⟩)] w fun e w' => e = .returned (.int .u64 (g.own i)) ∧ Below w.heap.size w w' := by
  obtain ⟨hp, ka, kc, X⟩ := L.sent i hi hr
  have hM := L.map
  have CX : Hid (∀ dd os, Calls Try.prog 34 #[.agg #[.pointer hp, .int .u32 (g.ck i).own, .int .u32 (g.ck i).n, .slice ka (g.ck i).len kc], .string (g.ho i)] (grow (redrawn w dd) os) fun e w'' => e = .returned (.int .u64 (g.own i)) ∧ ∃ p : Regrown, w'' = grow (redrawn w p.d) p.os) :=
    fun dd os => Calls.regrown_of (Count_any hp (g.ck i) ka kc (g.ho i) g.bm g.n g.nm _ (X.hosts.below (below_regrown w dd os)) X.zero (hM.below (below_regrown w dd os)) X.len (X.ev.kn.below (below_regrown w dd os)) X.asc X.fits X.host)
  have x0 := fun dd os => cell_regrown X.ev.h0 dd os
  have x1 := fun dd os => cell_regrown X.ev.h1 dd os
  have x2 := fun dd os => cell_regrown X.ev.h2 dd os
  have x3 := fun dd os => cell_regrown X.ev.h3 dd os
  have x4 := fun dd os => cell_regrown X.ev.h4 dd os
  have e12 := fun dd os => cell_regrown (L.cellR hi hr) dd os
  clear L hM X
  generalize g.own i = v at *
  generalize g.ck i = c at *
  generalize g.ho i = h at *
  generalize g.E i = eb at *
  generalize g.F i = fb at *
  go_enter Try.func43, Try.ntmps43
  go_wp2
  refine wp_region_quiet_below (by kernel_rfl) (by kernel_rfl) ?_
  repeat (quiet_step (first | (go_at_call 34; exact CX.out _ _)))
  refine wpQuiet_nil ?_
  intro _ hw'
  obtain ⟨⟨dq, osq⟩, hw''⟩ := hw'
  rw [hw'']
  clear hw''
  go_wp2
  go_ret
  exact ⟨rfl, below_regrown w dq osq⟩

/-- x's send comes before y's in the total order of Lamport time -/
def keyB (lx ly : Int) (hx hy : ByteArray) : Bool := decide (lx < ly) || (decide (lx = ly) && ltB hx hy)

end Go.Proofs.Qxb6609005a
