import Derived.Test.Qxb6609005aM4
import Derived.ProofKit
import Derived.OpenShut
import Derived.ShutString
import Derived.ChangeOld
import Derived.SliceStrings
import Derived.Deep.Slices
namespace Go.Proofs.Qxb6609005a
open Go.ChangeShapes Go.WideShapes Go.ChangeAt Go.RowKit Go.Deep
open Go.ChangeMaps (open_string shut_string)
set_option linter.unusedVariables false
set_option linter.unusedSimpArgs false

theorem own : ownKnob Try.prog.godebug = none := by kernel_rfl
theorem laidOut : laidOutB Try.prog = true := by kernel_rfl
theorem cells67 : Try.prog.cellsOf 67 = 2 := by kernel_rfl
theorem cells24 : Try.prog.cellsOf 24 = 1 := by kernel_rfl
theorem cells27 : Try.prog.cellsOf 27 = 6 := by kernel_rfl
theorem cells9 : Try.prog.cellsOf 9 = 1 := by kernel_rfl
theorem cells23 : Try.prog.cellsOf 23 = 1 := by kernel_rfl
theorem cells4 : Try.prog.cellsOf 4 = 1 := by kernel_rfl
theorem cells25 : Try.prog.cellsOf 25 = 1 := by kernel_rfl

section
variable {H : Type} {enc : TypeId × Value → H} {w : World} {base : Nat} {spare : Nat → Bool} {held : Bool}

/-- the entries of a clock that came in -/
theorem open_pairs {fuel : Nat} {cs : List Value} {x : DataW H × List MemPlace} (h : DataW.trod enc Try.prog w base (fun _ => true) held fuel 25 cs = some x) :
    ∃ (a : Option Addr) (len cap : Nat) (hs cn : Nat → Int), cs = [.slice a len cap] ∧ len ≤ maxLen ∧ KN w a len hs cn ∧ (∀ j, j < len → 0 ≤ hs j ∧ hs j < 4294967296) ∧ (∀ j, j < len → 0 ≤ cn j ∧ cn j < 4294967296) := by
  rcases open_slice Try.underlying25 h with ⟨rfl, _⟩ | ⟨a, len, cap, m, n, D, Pl, rfl, hb, hl, hm, hmm, _, hx⟩
  · exact ⟨none, 0, 0, fun _ => 0, fun _ => 0, rfl, Nat.zero_le _, .inl rfl, fun j hj => by omega, fun j hj => by omega⟩
  · simp only [if_true] at hmm
    rw [cells67] at hx
    have key : ∀ i, i < len → ∃ p : Int × Int, w.cell? (a.add (i * 2)) = some (.int .u32 p.1) ∧ w.cell? ((a.add (i * 2)).add 1) = some (.int .u32 p.2) ∧ (0 ≤ p.1 ∧ p.1 < 4294967296) ∧ (0 ≤ p.2 ∧ p.2 < 4294967296) := by
      intro i hi
      obtain ⟨cs', h1, h2⟩ := hx i (by omega)
      obtain ⟨y0, y1, k, _, hlen, t0, t1⟩ := trod_struct2 Try.underlying67 h2
      rw [cells67] at hlen
      rw [cells24] at t0 t1
      obtain ⟨_, _, hcell⟩ := World.cells?_some h1
      match cs', hlen with
      | [u, v], _ =>
        simp at t0 t1
        obtain ⟨p, e0, _, wp⟩ := DataW.trod_int Try.underlying24 t0
        obtain ⟨q, e1, _, wq⟩ := DataW.trod_int Try.underlying24 t1
        simp at e0 e1
        subst e0; subst e1
        have bp := bounds_u32 wp
        have bq := bounds_u32 wq
        refine ⟨(p, q), ?_, ?_, by simp only; omega, by simp only; omega⟩
        · have := hcell 0 (by simp); rw [add_add, Nat.add_zero] at this; simpa using this
        · have := hcell 1 (by simp); simpa using this
    obtain ⟨f, hf⟩ := choose_lt key
    refine ⟨some a, len, cap, fun i => (f i).1, fun i => (f i).2, rfl, by omega, ?_, fun j hj => (hf j hj).2.2.1, fun j hj => (hf j hj).2.2.2⟩
    by_cases h0 : len = 0
    · exact .inl h0
    · obtain ⟨b, off, spot⟩ := a
      have h00 := (hf 0 (by omega)).1
      have hspot : spot = none := by simpa [Addr.add] using World.cell?_spot h00
      subst hspot
      have hbl : b < w.heap.size := by
        rw [Addr.add_lit] at h00
        exact World.block_lt_of_cell? _ _ h00
      refine .inr ⟨b, off, rfl, hbl, fun i hi => ?_⟩
      obtain ⟨g1, g2, _⟩ := hf i hi
      rw [Addr.add_lit] at g1 g2
      rw [Addr.add_lit] at g2
      exact ⟨g1, g2⟩

set_option maxRecDepth 100000 in
/-- the six cells of an event that came in -/
theorem open_ev_cells {fuel : Nat} {cs : List Value} {x : DataW H × List MemPlace} (h : DataW.trod enc Try.prog w base (fun _ => true) held fuel 27 cs = some x) :
    ∃ (host : ByteArray) (lam : Int) (z : Bool) (own nn : Int) (a : Option Addr) (len cap : Nat) (hs cn : Nat → Int),
      cs = [.string host, .int .u64 lam, .bool z, .int .u32 own, .int .u32 nn, .slice a len cap] ∧ EvRaw w own nn a len hs cn host := by
  obtain ⟨xs, n, _, _, hl, hlen, hf⟩ := DataW.trod_struct Try.underlying27 h
  rw [cells27] at hl
  match cs, hl with
  | [c0, c1, c2, c3, c4, c5], _ =>
    have hget : ∀ i, i < 6 → ∃ y, xs[i]? = some y := fun i hi => by
      have : i < xs.length := by rw [hlen]; simpa using hi
      exact ⟨xs[i], List.getElem?_eq_getElem this⟩
    obtain ⟨y0, g0⟩ := hget 0 (by omega)
    obtain ⟨y1, g1⟩ := hget 1 (by omega)
    obtain ⟨y2, g2⟩ := hget 2 (by omega)
    obtain ⟨y3, g3⟩ := hget 3 (by omega)
    obtain ⟨y4, g4⟩ := hget 4 (by omega)
    obtain ⟨y5, g5⟩ := hget 5 (by omega)
    have step : ∀ (i : Nat) (t : TypeId) (f : Field) (y : DataW H × List MemPlace) (c : Value) (cs : List Value), DataW.trod enc Try.prog w base (fun _ => true) held n f.type ((cs.drop f.offset).take (Try.prog.cellsOf f.type)) = xs[i]? → f.type = t → f.offset = i → Try.prog.cellsOf t = 1 → cs[i]? = some c → xs[i]? = some y → DataW.trod enc Try.prog w base (fun _ => true) held n t [c] = some y := by
      intro i t f y c cs h1 h2 h3 h4 h5 h6
      rw [h6, h2, h3, h4] at h1
      rw [← h1]
      congr 1
      obtain ⟨hlt, rfl⟩ := List.getElem?_eq_some_iff.1 h5
      rw [List.drop_eq_getElem_cons hlt]
      rfl
    have t0 := step 0 9 _ y0 c0 _ (hf 0 _ rfl) rfl rfl cells9 rfl g0
    have t1 := step 1 23 _ y1 c1 _ (hf 1 _ rfl) rfl rfl cells23 rfl g1
    have t2 := step 2 4 _ y2 c2 _ (hf 2 _ rfl) rfl rfl cells4 rfl g2
    have t3 := step 3 24 _ y3 c3 _ (hf 3 _ rfl) rfl rfl cells24 rfl g3
    have t4 := step 4 24 _ y4 c4 _ (hf 4 _ rfl) rfl rfl cells24 rfl g4
    have t5 := step 5 25 _ y5 c5 _ (hf 5 _ rfl) rfl rfl cells25 rfl g5
    obtain ⟨host, e0, _, wh⟩ := DataW.trod_string Try.underlying9 t0
    obtain ⟨lam, e1, _, _⟩ := DataW.trod_int Try.underlying23 t1
    obtain ⟨z, e2, _⟩ := DataW.trod_bool Try.underlying4 t2
    obtain ⟨own, e3, _, wo⟩ := DataW.trod_int Try.underlying24 t3
    obtain ⟨nn, e4, _, wn⟩ := DataW.trod_int Try.underlying24 t4
    obtain ⟨a, len, cap, hs, cn, e5, hl5, hk, b1, b2⟩ := open_pairs t5
    simp at e0 e1 e2 e3 e4 e5
    subst e0 e1 e2 e3 e4 e5
    have bo := bounds_u32 wo
    have bn := bounds_u32 wn
    exact ⟨host, lam, z, own, nn, a, len, cap, hs, cn, rfl, hl5, hk, by omega, by omega, b1, b2, wh⟩

set_option maxRecDepth 100000 in
/-- an event that came in, by value -/
theorem open_ev {r : Reach} {b0 : Nat} {v : Value} {d : DataW H} {p : List MemPlace} (hv : Value.okWide Try.prog w r b0 27 v) (h : DataW.Trod enc Try.prog w base (fun _ => true) held 27 v d p) :
    ∃ (host : ByteArray) (lam : Int) (z : Bool) (own nn : Int) (a : Option Addr) (len cap : Nat) (hs cn : Nat → Int),
      v = .agg #[.string host, .int .u64 lam, .bool z, .int .u32 own, .int .u32 nn, .slice a len cap] ∧ EvRaw w own nn a len hs cn host := by
  obtain ⟨cs, rfl, hsz⟩ := okWide_struct Try.underlying27 hv
  obtain ⟨fuel, hf⟩ := h
  obtain ⟨host, lam, z, own, nn, a, len, cap, hs, cn, e, hE⟩ := open_ev_cells hf
  refine ⟨host, lam, z, own, nn, a, len, cap, hs, cn, ?_, hE⟩
  have : cs.toList = [.string host, .int .u64 lam, .bool z, .int .u32 own, .int .u32 nn, .slice a len cap] := by simpa [Value.cells] using e
  rw [← Array.toArray_toList (xs := cs), this]
end

end Go.Proofs.Qxb6609005a
