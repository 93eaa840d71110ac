import Derived.Test.Qxb6609005aOpen
import Derived.Test.Qxb6609005aC1
namespace Go.Proofs.Qxb6609005a
open Go.ChangeShapes Go.WideShapes Go.ChangeAt Go.RowKit Go.Deep
open Go.ChangeMaps (open_string shut_string)
set_option linter.unusedVariables false
set_option linter.unusedSimpArgs false

theorem cells64 : Try.prog.cellsOf 64 = 7 := by kernel_rfl
theorem cells51 : Try.prog.cellsOf 51 = 2 := by kernel_rfl
theorem cells3 : Try.prog.cellsOf 3 = 1 := by kernel_rfl

instance : Inhabited Ev := ⟨⟨false, ByteArray.empty, 0, false, 0, 0, none, 0, 0, fun _ => 0, fun _ => 0⟩⟩

section
variable {H : Type} {enc : TypeId × Value → H} {w : World} {base : Nat} {spare : Nat → Bool} {held : Bool}

set_option maxRecDepth 100000 in
/-- the events of a host that came in -/
theorem open_hevs {fuel : Nat} {cs : List Value} {x : DataW H × List MemPlace} (h : DataW.trod enc Try.prog w base (fun _ => true) held fuel 39 cs = some x) :
    ∃ (a : Option Addr) (m cap : Nat) (ev : Nat → Ev), cs = [.slice a m cap] ∧ m ≤ maxLen ∧ EvsAt w a m ev := by
  rcases open_slice Try.underlying39 h with ⟨rfl, _⟩ | ⟨a, len, cap, m, n, D, Pl, rfl, hb, hl, hm, hmm, _, hx⟩
  · exact ⟨none, 0, 0, fun _ => default, rfl, Nat.zero_le _, .inl rfl, fun i hi => by omega⟩
  · simp only [if_true] at hmm
    rw [cells64] at hx
    have key : ∀ i, i < len → ∃ e : Ev, (w.cell? (a.add (i * 7)) = some (.bool e.rv) ∧ w.cell? ((a.add (i * 7)).add 1) = some (.string e.host) ∧ w.cell? ((a.add (i * 7)).add 2) = some (.int .u64 e.lam) ∧ w.cell? ((a.add (i * 7)).add 3) = some (.bool e.z) ∧ w.cell? ((a.add (i * 7)).add 4) = some (.int .u32 e.own) ∧ w.cell? ((a.add (i * 7)).add 5) = some (.int .u32 e.nn) ∧ w.cell? ((a.add (i * 7)).add 6) = some (.slice e.a e.len e.cap)) ∧ EvRaw w e.own e.nn e.a e.len e.hs e.cn e.host := by
      intro i hi
      obtain ⟨cs', h1, h2⟩ := hx i (by omega)
      obtain ⟨y0, y1, k, _, hlen, t0, t1⟩ := trod_struct2 Try.underlying64 h2
      rw [cells64] at hlen
      rw [cells4] at t0
      rw [cells27] at t1
      obtain ⟨_, _, hcell⟩ := World.cells?_some h1
      match cs', hlen with
      | [u, c0, c1, c2, c3, c4, c5], _ =>
        simp at t0 t1
        obtain ⟨rv, e0, _⟩ := DataW.trod_bool Try.underlying4 t0
        obtain ⟨host, lam, z, own, nn, ka, kl, kc, hs, cn, e1, raw⟩ := open_ev_cells t1
        simp at e0 e1
        obtain ⟨q0, q1, q2, q3, q4, q5⟩ := e1
        subst e0; subst q0; subst q1; subst q2; subst q3; subst q4; subst q5
        refine ⟨⟨rv, host, lam, z, own, nn, ka, kl, kc, hs, cn⟩, ⟨?_, ?_, ?_, ?_, ?_, ?_, ?_⟩, raw⟩
        · have := hcell 0 (by simp); rw [add_add, Nat.add_zero] at this; simpa using this
        · have := hcell 1 (by simp); simpa using this
        · have := hcell 2 (by simp); simpa using this
        · have := hcell 3 (by simp); simpa using this
        · have := hcell 4 (by simp); simpa using this
        · have := hcell 5 (by simp); simpa using this
        · have := hcell 6 (by simp); simpa using this
    obtain ⟨f, hf⟩ := choose_lt key
    refine ⟨some a, len, cap, f, rfl, by omega, ?_, fun i hi => (hf i hi).2⟩
    by_cases h0 : len = 0
    · exact .inl h0
    · obtain ⟨b, off, spot⟩ := a
      have h00 := (hf 0 (by omega)).1.1
      have hspot : spot = none := by simpa [Addr.add] using World.cell?_spot h00
      subst hspot
      have hbl : b < w.heap.size := by
        rw [Addr.add_lit] at h00
        exact World.block_lt_of_cell? _ _ h00
      refine .inr ⟨b, off, rfl, hbl, fun i hi => ?_⟩
      obtain ⟨⟨g0, g1, g2, g3, g4, g5, g6⟩, _⟩ := hf i hi
      simp only [Addr.add_lit] at g0 g1 g2 g3 g4 g5 g6
      exact ⟨g0, g1, g2, g3, g4, g5, g6⟩

/-- pairs of numbers, to be read -/
def RdI (w : World) (a : Option Addr) (N : Nat) (x y : Nat → Int) : Prop :=
  N = 0 ∨ ∃ b o, a = some ⟨b, o, none⟩ ∧ b < w.heap.size ∧ ∀ t, t < N → w.cell? ⟨b, o + t * 2, none⟩ = some (.int .i64 (x t)) ∧ w.cell? ⟨b, o + t * 2 + 1, none⟩ = some (.int .i64 (y t))

/-- the pairs that came in -/
theorem open_found {fuel : Nat} {cs : List Value} {x : DataW H × List MemPlace} (h : DataW.trod enc Try.prog w base (fun _ => true) held fuel 40 cs = some x) :
    ∃ (a : Option Addr) (len cap : Nat) (fe fl : Nat → Int), cs = [.slice a len cap] ∧ len ≤ maxLen ∧ RdI w a len fe fl ∧ ∀ t, t < len → (-9223372036854775808 ≤ fe t ∧ fe t < 9223372036854775808) ∧ (-9223372036854775808 ≤ fl t ∧ fl t < 9223372036854775808) := by
  rcases open_slice Try.underlying40 h with ⟨rfl, _⟩ | ⟨a, len, cap, m, n, D, Pl, rfl, hb, hl, hm, hmm, _, hx⟩
  · exact ⟨none, 0, 0, fun _ => 0, fun _ => 0, rfl, Nat.zero_le _, .inl rfl, fun t ht => by omega⟩
  · simp only [if_true] at hmm
    rw [cells51] at hx
    have key : ∀ i, i < len → ∃ p : Int × Int, w.cell? (a.add (i * 2)) = some (.int .i64 p.1) ∧ w.cell? ((a.add (i * 2)).add 1) = some (.int .i64 p.2) ∧ (-9223372036854775808 ≤ p.1 ∧ p.1 < 9223372036854775808) ∧ (-9223372036854775808 ≤ p.2 ∧ p.2 < 9223372036854775808) := by
      intro i hi
      obtain ⟨cs', h1, h2⟩ := hx i (by omega)
      obtain ⟨y0, y1, k, _, hlen, t0, t1⟩ := trod_struct2 Try.underlying51 h2
      rw [cells51] at hlen
      rw [cells3] at t0 t1
      obtain ⟨_, _, hcell⟩ := World.cells?_some h1
      match cs', hlen with
      | [u, v], _ =>
        simp at t0 t1
        obtain ⟨p, e0, _, wp⟩ := DataW.trod_int Try.underlying3 t0
        obtain ⟨q, e1, _, wq⟩ := DataW.trod_int Try.underlying3 t1
        simp at e0 e1
        subst e0; subst e1
        have bp := bounds_i64 wp
        have bq := bounds_i64 wq
        refine ⟨(p, q), ?_, ?_, by simp only; omega, by simp only; omega⟩
        · have := hcell 0 (by simp); rw [add_add, Nat.add_zero] at this; simpa using this
        · have := hcell 1 (by simp); simpa using this
    obtain ⟨f, hf⟩ := choose_lt key
    refine ⟨some a, len, cap, fun i => (f i).1, fun i => (f i).2, rfl, by omega, ?_, fun t ht => (hf t ht).2.2⟩
    by_cases h0 : len = 0
    · exact .inl h0
    · obtain ⟨b, off, spot⟩ := a
      have h00 := (hf 0 (by omega)).1
      have hspot : spot = none := by simpa [Addr.add] using World.cell?_spot h00
      subst hspot
      have hbl : b < w.heap.size := by
        rw [Addr.add_lit] at h00
        exact World.block_lt_of_cell? _ _ h00
      refine .inr ⟨b, off, rfl, hbl, fun i hi => ?_⟩
      obtain ⟨g1, g2, _⟩ := hf i hi
      simp only [Addr.add_lit] at g1 g2
      exact ⟨g1, g2⟩
end

end Go.Proofs.Qxb6609005a
