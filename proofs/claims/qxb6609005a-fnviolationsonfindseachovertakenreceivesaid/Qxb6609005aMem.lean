import Derived.Test.Qxb6609005aRows
import Derived.WalkKit
import Derived.WalkSpells
import Derived.WalkLawsBesides
import Derived.Deep.QuietTactic
import Derived.BigQuiet
import Derived.OpenShut
import Derived.Deep.LoopGhost
import Derived.Deep.RegionWith
import Derived.Deep.DeepCutAuto
import Derived.Lib.SliceRun
import Derived.Lib.QuietBelow
import Derived.Maps.OwnSet
import Derived.Laws.CopyOwn
import Derived.Deep.OwnRows
namespace Go.Proofs.Qxb6609005a
open Go.RowKit
set_option linter.unusedSimpArgs false
set_option linter.unusedVariables false

theorem ret_int {k : IntKind} {a b : Int} (h : a = b) : Ending.returned (.int k a) = .returned (.int k b) := by rw [h]
theorem ret_bool {a b : Bool} (h : a = b) : Ending.returned (.bool a) = .returned (.bool b) := by rw [h]

/-- it returns a bool of which φ holds -/
def Says (e : Ending) (φ : Bool → Prop) : Prop := ∃ r : Bool, e = .returned (.bool r) ∧ φ r

/-- a callee's contract met behind draws, in a region that only reads -/
theorem quiet_of2 {P : Program} {f : FuncId} {args : Array Value} {w : World} {m x : Nat} {v : Value}
    (h : Calls P f args (w.drewN (m + x)) fun e w' => e = .returned v ∧ ∃ k, w' = (w.drewN (m + x)).drewN k) : Calls P f args (w.drewN (m + x)) fun e w'' => e = .returned v ∧ ∃ n, w'' = w.drewN (m + n) :=
  h.mono fun _ _ ⟨he, k, hk⟩ => ⟨he, x + k, by rw [hk, World.drewN_drewN, Nat.add_assoc]⟩

theorem cellA {w : World} {o : Obj} {b i : Nat} (h : b < w.heap.size) : (w.alloc o).cell? ⟨b, i, none⟩ = w.cell? ⟨b, i, none⟩ := World.cell?_of_block (a := ⟨b, i, none⟩) (Below.heap_alloc w o b h)

/-! Memory of the call's own: a block whose first N cells are told by a function; a slice that is read. -/

/-- block g holds f 0 .. f (N-1) in its first N cells, and may be written -/
structure Own (w : World) (g N : Nat) (f : Nat → Value) : Prop where
  lt : g < w.heap.size
  cell : ∀ i, i < N → w.cell? ⟨g, i, none⟩ = some (f i)
  thaw : ∀ i, w.frozen? ⟨g, i, none⟩ = false

theorem Own.set {w : World} {g N : Nat} {f : Nat → Value} (h : Own w g N f) (i : Nat) (hi : i < N) (v : Value) : Own (w.setCell ⟨g, i, none⟩ v) g N (fun j => if j = i then v else f j) := by
  refine ⟨by simpa using h.lt, fun j hj => ?_, fun j => by simpa using h.thaw j⟩
  by_cases e : j = i
  · subst e; simp only [if_true]; exact World.cell?_setCell_same _ _ _ (h.cell j hj)
  · simp only [e, if_false]; rw [World.cell?_setCell_other]; exact h.cell j hj
    intro e2; injection e2 with _ e3; exact e e3.symm

theorem Own.below {w w' : World} {B g N : Nat} {f : Nat → Value} (h : Own w g N f) (k : Below B w w') (hB : g < B) : Own w' g N f :=
  ⟨Nat.lt_of_lt_of_le h.lt k.size, fun i hi => by rw [k.cell hB]; exact h.cell i hi, fun i => by rw [k.frozen hB]; exact h.thaw i⟩

theorem Own.setOther {w : World} {g N : Nat} {f : Nat → Value} (h : Own w g N f) {a : Addr} (ha : a.block ≠ g) (v : Value) : Own (w.setCell a v) g N f := by
  refine ⟨by simpa using h.lt, fun j hj => ?_, fun j => by simpa using h.thaw j⟩
  rw [World.cell?_setCell_other]; exact h.cell j hj
  intro e; rw [e] at ha; exact ha rfl

theorem Own.alloc {w : World} {g N : Nat} {f : Nat → Value} (h : Own w g N f) (o : Obj) : Own (w.alloc o) g N f := h.below ((Below.refl _ w).alloc (Nat.le_refl _) o) h.lt
theorem Own.drewN {w : World} {g N : Nat} {f : Nat → Value} (h : Own w g N f) (n : Nat) : Own (w.drewN n) g N f := ⟨h.lt, h.cell, h.thaw⟩
theorem Own.drew {w : World} {g N : Nat} {f : Nat → Value} (h : Own w g N f) : Own w.drew g N f := ⟨h.lt, h.cell, h.thaw⟩

theorem Own.new (w : World) (C : Array Value) (e : TypeId) (f : Nat → Value) (hf : ∀ i (h : i < C.size), C[i] = f i) : Own (w.alloc (.cells C e)) w.heap.size C.size f := by
  refine ⟨by simp, fun i hi => ?_, fun i => by simp⟩
  rw [World.cell?_alloc_new]; simp [hi, hf i hi]

/-- a fresh row: every cell is the zero of its place -/
theorem Own.made (w : World) (z : Array Value) (n : Nat) (e : TypeId) : Own (w.alloc (.cells (madeCells z n) e)) w.heap.size n (fun i => z[i % z.size]!) := by
  have := Own.new w (madeCells z n) e (fun i => z[i % z.size]!) (fun i hi => by simp [madeCells])
  rwa [size_madeCells] at this

/-- 'make([]T, n)', whatever T: a new row at the heap's end -/
theorem run_mk {P : Program} (t e : TypeId) (z : Value) (size bytes : Nat) (ht : P.underlying t = some (.slice e)) (hinfo : (P.info? e).map (fun i => (i.zero, i.size, i.bytes)) = some (some z, size, bytes))
    (n : Nat) (hbytes : bytes * n ≤ 281474976710656) (h63 : n ≤ 9223372036854775807) (w : World) :
    (Instr.makeSlice t (.int .i64 (n : Int)) (.int .i64 (n : Int))).run P w = .ok (.slice (some ⟨w.heap.size, 0, none⟩) n n) (w.alloc (.cells (madeCells z.cells (n * size)) e)) := by
  obtain ⟨i, hi, hz, hs, hb⟩ := info_parts hinfo
  have hb' : (i.bytes : Int) * (n : Int) ≤ 281474976710656 := by
    have h : ((i.bytes * n : Nat) : Int) ≤ 281474976710656 := by rw [hb]; omega
    rwa [Int.natCast_mul] at h
  have hr := run_make (P := P) w t e i z ht hi hz .i64 .i64 n n (by omega) (Int.le_refl _) hb' (by omega)
  simp only [Int.toNat_natCast, hs] at hr
  exact hr

/-- a slice that is read: it has no element, or its cells lie at b from o on -/
def Rd (w : World) (a : Option Addr) (n : Nat) (f : Nat → Value) : Prop :=
  n = 0 ∨ ∃ b o, a = some ⟨b, o, none⟩ ∧ b < w.heap.size ∧ ∀ i, i < n → w.cell? ⟨b, o + i, none⟩ = some (f i)

theorem Rd.below {w w' : World} {a : Option Addr} {n : Nat} {f : Nat → Value} (h : Rd w a n f) (k : Below w.heap.size w w') : Rd w' a n f := by
  rcases h with h | ⟨b, o, ha, hb, hc⟩
  · exact .inl h
  · exact .inr ⟨b, o, ha, Nat.lt_of_lt_of_le hb k.size, fun i hi => by rw [k.cell hb]; exact hc i hi⟩

theorem Own.rd {w : World} {g N : Nat} {f : Nat → Value} (h : Own w g N f) : Rd w (some ⟨g, 0, none⟩) N f :=
  .inr ⟨g, 0, rfl, h.lt, fun i hi => by rw [Nat.zero_add]; exact h.cell i hi⟩

/-- 'copy(zzc, xs)' into a row just made, as long as xs -/
theorem copy_fresh {P : Program} (t e : TypeId) (z : Value) (hu : P.underlying t = some (.slice e)) (hsz : (P.info? e).map (·.size) = some 1) (w : World) (x : Addr) (n c : Nat) (f : Nat → Value)
    (h1 : ∀ i, (f i).oneCell' = true) (hr : Rd w (some x) n f) :
    ∃ W, (∀ ty, (Builtin.copy_ #[t, t] ty #[.slice (some ⟨w.heap.size, 0, none⟩) n n, .slice (some x) n c]).run P (w.alloc (.cells (madeCells #[z] n) e)) = .ok (.int .i64 n) W) ∧ Own W w.heap.size n f ∧ Below w.heap.size w W := by
  have hb0 : Below w.heap.size w (w.alloc (.cells (madeCells #[z] n) e)) := (Below.refl _ _).alloc (Nat.le_refl _) _
  rcases hr with hn | ⟨b, o, hx, hb, hc⟩
  · subst hn
    refine ⟨w.alloc (.cells (madeCells #[z] 0) e), fun ty => ?_, ⟨by simp, fun i hi => by omega, fun i => by simp⟩, hb0⟩
    exact run_copy_none (P := P) _ t t ty e _ _ 0 0 0 c hu hsz (by simp)
  · have hx' : x = ⟨b, o, none⟩ := by injection hx
    subst hx'
    have hg : (w.alloc (.cells (madeCells #[z] n) e)).heap[w.heap.size]? = some (.cells (madeCells #[z] n) e (0, 0)) := by
      show (w.heap.push _)[w.heap.size]? = _
      simp
    have hrun := fun ty => run_copy_row (P := P) (w.alloc (.cells (madeCells #[z] n) e)) t t ty e w.heap.size 0 n n ⟨b, o, none⟩ n c (madeCells #[z] n) e ((List.range n).map f) hu hsz hg (by simp) (by
        intro j v hj
        rw [List.getElem?_map] at hj
        obtain ⟨i, hi, hv⟩ := Option.map_eq_some_iff.1 hj
        have hjn : j < n := by have := (List.getElem?_eq_some_iff.1 hi).1; simpa using this
        have : i = j := by rw [List.getElem?_range hjn] at hi; exact (Option.some.inj hi).symm
        subst this; subst hv
        rw [Addr.add_lit, hb0.cell hb]; exact hc i hjn) (by simp [size_madeCells]) (by
        intro v hv
        obtain ⟨i, _, rfl⟩ := List.mem_map.1 hv
        exact h1 i)
    simp only [List.length_map, List.length_range] at hrun
    refine ⟨_, hrun, ?_, below_setRow hb0 (Nat.le_refl _) _⟩
    have hh := setRow_heap (w.alloc (.cells (madeCells #[z] n) e)) w.heap.size (madeCells #[z] n) ((madeCells #[z] n).toList.take 0 ++ (List.range n).map f ++ (madeCells #[z] n).toList.drop (0 + n)).toArray e (0, 0) hg
    generalize (w.alloc (.cells (madeCells #[z] n) e)).setRow w.heap.size ((madeCells #[z] n).toList.take 0 ++ (List.range n).map f ++ (madeCells #[z] n).toList.drop (0 + n)).toArray = W at *
    have hd : (madeCells #[z] n).toList.drop (0 + n) = [] := List.drop_eq_nil_of_le (by simp [size_madeCells])
    rw [hd] at hh
    refine ⟨(Array.getElem?_eq_some_iff.1 hh).1, fun i hi => ?_, fun i => ?_⟩
    · simp [World.cell?, hh, hi]
    · simp [World.frozen?, hh]

/-- 'make([]T, n)', T of one cell: a new row at the heap's end -/
theorem run_mk1 {P : Program} (t e : TypeId) (z : Value) (bytes : Nat) (ht : P.underlying t = some (.slice e)) (hinfo : (P.info? e).map (fun i => (i.zero, i.size, i.bytes)) = some (some z, 1, bytes)) (hz1 : z.cells = #[z])
    (n : Nat) (hbytes : bytes * n ≤ 281474976710656) (h63 : n ≤ 9223372036854775807) (w : World) :
    (Instr.makeSlice t (.int .i64 (n : Int)) (.int .i64 (n : Int))).run P w = .ok (.slice (some ⟨w.heap.size, 0, none⟩) n n) (w.alloc (.cells (madeCells #[z] n) e)) :=
  run_make_row' t e z bytes ht hinfo hz1 .i64 .i64 n hbytes h63 w

theorem info_size {P : Program} {e : TypeId} {z : Option Value} {size bytes : Nat} (h : (P.info? e).map (fun i => (i.zero, i.size, i.bytes)) = some (z, size, bytes)) : (P.info? e).map (·.size) = some size := by
  cases hq : P.info? e with
  | none => rw [hq] at h; cases h
  | some i => rw [hq] at h; simp only [Option.map_some, Option.some.injEq, Prod.mk.injEq] at h ⊢; exact h.2.1

/-- a row of n cells whose first k hold F -/
def Fill (w : World) (g n : Nat) (F : Nat → Value) (k : Nat) : Prop := ∃ f, Own w g n f ∧ ∀ i, i < k → f i = F i

theorem Fill.zero {w : World} {g n : Nat} {f : Nat → Value} (h : Own w g n f) (F : Nat → Value) : Fill w g n F 0 := ⟨f, h, fun i hi => by omega⟩
theorem Fill.set {w : World} {g n : Nat} {F : Nat → Value} {k : Nat} (h : Fill w g n F k) (hk : k < n) : Fill (w.setCell ⟨g, k, none⟩ (F k)) g n F (k + 1) := by
  obtain ⟨f, hf, hx⟩ := h
  refine ⟨_, hf.set k hk _, fun i hi => ?_⟩
  by_cases e : i = k
  · subst e; simp
  · simp only [e, if_false]; exact hx i (by omega)
theorem Fill.other {w : World} {g n : Nat} {F : Nat → Value} {k : Nat} (h : Fill w g n F k) {a : Addr} (ha : a.block ≠ g) (v : Value) : Fill (w.setCell a v) g n F k := by
  obtain ⟨f, hf, hx⟩ := h
  exact ⟨f, hf.setOther ha v, hx⟩
theorem Fill.own {w : World} {g n : Nat} {F : Nat → Value} (h : Fill w g n F n) : Own w g n F := by
  obtain ⟨f, hf, hx⟩ := h
  exact ⟨hf.lt, fun i hi => by rw [hf.cell i hi, hx i hi], hf.thaw⟩
theorem Fill.alloc {w : World} {g n : Nat} {F : Nat → Value} {k : Nat} (h : Fill w g n F k) (o : Obj) : Fill (w.alloc o) g n F k := by
  obtain ⟨f, hf, hx⟩ := h
  exact ⟨f, hf.alloc o, hx⟩
theorem Fill.drewN {w : World} {g n : Nat} {F : Nat → Value} {k : Nat} (h : Fill w g n F k) (m : Nat) : Fill (w.drewN m) g n F k := by
  obtain ⟨f, hf, hx⟩ := h
  exact ⟨f, hf.drewN m, hx⟩
theorem Fill.made1 (w : World) (z : Value) (n : Nat) (e : TypeId) (F : Nat → Value) : Fill (w.alloc (.cells (madeCells #[z] n) e)) w.heap.size n F 0 := Fill.zero (Own.made w #[z] n e) F

/-- what came in is read as 'Rd' has it -/
theorem rd_of {w : World} {a : Addr} {n N : Nat} {f : Nat → Value} (h : ∀ i, i < N → w.cell? (a.add i) = some (f i)) (hn : n ≤ N) : Rd w (some a) n f := by
  by_cases h0 : n = 0
  · exact .inl h0
  · obtain ⟨b, off, spot⟩ := a
    have hspot : spot = none := by simpa [Addr.add] using World.cell?_spot (h 0 (by omega))
    subst hspot
    have hb : b < w.heap.size := by
      have := h 0 (by omega)
      rw [Addr.add_lit] at this
      exact World.block_lt_of_cell? _ _ this
    exact .inr ⟨b, off, rfl, hb, fun i hi => by rw [← Addr.add_lit]; exact h i (by omega)⟩

/-- a row of the call's own with room: its first cells are xs -/
def Buf (w : World) (e : TypeId) (g cap : Nat) (xs : List Value) : Prop :=
  ∃ cur : Array Value, w.heap[g]? = some (.cells cur e (0, 0)) ∧ cur.size = cap ∧ xs.length ≤ cap ∧ cur.toList.take xs.length = xs

theorem Buf.keep {w w' : World} {e : TypeId} {g cap : Nat} {xs : List Value} (h : Buf w e g cap xs) (hk : w'.heap[g]? = w.heap[g]?) : Buf w' e g cap xs := by
  obtain ⟨cur, h1, h2⟩ := h
  exact ⟨cur, by rw [hk]; exact h1, h2⟩
theorem Buf.lt {w : World} {e : TypeId} {g cap : Nat} {xs : List Value} (h : Buf w e g cap xs) : g < w.heap.size := by
  obtain ⟨cur, h1, _⟩ := h
  exact (Array.getElem?_eq_some_iff.1 h1).1
theorem Buf.made (w : World) (z : Value) (cap : Nat) (e : TypeId) : Buf (w.alloc (.cells (madeCells #[z] cap) e)) e w.heap.size cap [] := by
  refine ⟨madeCells #[z] cap, ?_, size_madeCells _ _, Nat.zero_le _, by simp⟩
  show (w.heap.push _)[w.heap.size]? = _
  simp
theorem Buf.rd {w : World} {e : TypeId} {g cap : Nat} {xs : List Value} (h : Buf w e g cap xs) (n : Nat) (f : Nat → Value) (hn : xs.length = n) (hf : ∀ i, i < n → xs[i]? = some (f i)) : Rd w (some ⟨g, 0, none⟩) n f := by
  have hlt := h.lt
  obtain ⟨cur, h1, h2, h3, h4⟩ := h
  refine .inr ⟨g, 0, rfl, hlt, fun i hi => ?_⟩
  rw [Nat.zero_add]
  have : cur[i]? = some (f i) := by
    rw [← hf i hi, ← h4, List.getElem?_take, if_pos (by omega), Array.getElem?_toList]
  simp [World.cell?, h1, this]
/-- one more cell, within the room -/
theorem Buf.append {P : Program} {w : World} {e : TypeId} {g cap : Nat} {xs : List Value} (h : Buf w e g cap xs) (t : TypeId) {z : Option Value} {bytes : Nat} (ht : P.underlying t = some (.slice e))
    (hinfo : (P.info? e).map (fun i => (i.zero, i.size, i.bytes)) = some (z, 1, bytes)) (hcap : cap ≤ maxLen) (hroom : xs.length < cap) (v : Value) (hv : v.oneCell' = true) (ty : TypeId) :
    ∃ W, (Builtin.append_ #[t, t] ty #[.slice (some ⟨g, 0, none⟩) xs.length cap, .slice (some ⟨w.heap.size, 0, none⟩) 1 1]).run P (w.alloc (.cells #[v] e)) = .ok (.slice (some ⟨g, 0, none⟩) (xs.length + 1) cap) W ∧
      Buf W e g cap (xs ++ [v]) ∧ w.heap.size + 1 ≤ W.heap.size ∧ (∀ k, k < w.heap.size → k ≠ g → W.heap[k]? = w.heap[k]?) ∧ W.os = w.os ∧ W.tape = w.tape ∧ W.output = w.output := by
  have hlt := h.lt
  obtain ⟨cur, h1, h2, h3, h4⟩ := h
  obtain ⟨i, hi, hzz⟩ := Option.map_eq_some_iff.1 hinfo
  simp only [Prod.mk.injEq] at hzz
  have hg : (w.alloc (.cells #[v] e)).heap[g]? = some (.cells cur e (0, 0)) := by rw [Below.heap_alloc w _ g hlt]; exact h1
  have hown : (w.alloc (.cells #[v] e)).ownsRow 0 e 1 (.slice (some ⟨g, 0, none⟩) xs.length cap) xs.length xs :=
    ⟨by simp, .inr ⟨g, cap, cur, rfl, Nat.zero_le _, hg, h3, hcap, by rw [h2]; simp, by simpa using h4⟩⟩
  obtain ⟨W, hr, ho, hgr⟩ := run_append_fits (P := P) (w.alloc (.cells #[v] e)) 0 t ty e i 1 ht hi hzz.2.1 g xs.length cap xs hown ⟨w.heap.size, 0, none⟩ 1 1 [v] (by simp)
    (by intro j u hj
        have : j = 0 := by have := (List.getElem?_eq_some_iff.1 hj).1; simp at this; omega
        subst this
        simp at hj; subst hj
        rw [Addr.add_lit]; simp) (by intro u hu; simp at hu; subst hu; exact hv) (by omega)
  refine ⟨W, hr, ?_, by simpa using hgr.size, fun k hk hne => ?_, hgr.os, hgr.tape, hgr.output⟩
  · obtain ⟨hl, h5⟩ := ho
    rcases h5 with ⟨h5, _⟩ | ⟨g', cap', cur', h5, _, hg', hc1, hc2, hc3, hc4⟩
    · cases h5
    · simp only [Value.slice.injEq, Option.some.injEq, Addr.mk.injEq, and_true, true_and] at h5
      obtain ⟨rfl, rfl⟩ := h5
      exact ⟨cur', hg', by simpa using hc3, by simpa using hc1, by simpa using hc4⟩
  · rw [hgr.block k (by simp; omega) (by simpa using hne), Below.heap_alloc w _ k hk]

/-- 'make([]T, 0, n)' -/
theorem run_mk0 {P : Program} (t e : TypeId) (z : Value) (bytes : Nat) (ht : P.underlying t = some (.slice e)) (hinfo : (P.info? e).map (fun i => (i.zero, i.size, i.bytes)) = some (some z, 1, bytes)) (hz1 : z.cells = #[z])
    (n : Nat) (hbytes : bytes * n ≤ 281474976710656) (h63 : n ≤ 9223372036854775807) (w : World) :
    (Instr.makeSlice t (.int .i64 0) (.int .i64 (n : Int))).run P w = .ok (.slice (some ⟨w.heap.size, 0, none⟩) 0 n) (w.alloc (.cells (madeCells #[z] n) e)) := by
  obtain ⟨i, hi, hz, hs, hb⟩ := info_parts hinfo
  have hb' : (i.bytes : Int) * (n : Int) ≤ 281474976710656 := by
    have h : ((i.bytes * n : Nat) : Int) ≤ 281474976710656 := by rw [hb]; omega
    rwa [Int.natCast_mul] at h
  have hr := run_make (P := P) w t e i z ht hi hz .i64 .i64 0 n (by omega) (by omega) hb' (by omega)
  simp only [Int.toNat_zero, Int.toNat_natCast, hs, Nat.mul_one, hz1] at hr
  exact hr

theorem Fill.lt {w : World} {g n k : Nat} {F : Nat → Value} (h : Fill w g n F k) : g < w.heap.size := by
  obtain ⟨f, hf, _⟩ := h
  exact hf.lt
theorem fill_cell {w : World} {g n k : Nat} {F : Nat → Value} (h : Fill w g n F k) (i : Nat) (hi : i < n) : ∃ v, w.cell? ⟨g, i, none⟩ = some v ∧ w.frozen? ⟨g, i, none⟩ = false := by
  obtain ⟨f, hf, _⟩ := h
  exact ⟨_, hf.cell i hi, hf.thaw i⟩
theorem Fill.below {w w' : World} {B g n k : Nat} {F : Nat → Value} (h : Fill w g n F k) (hb : Below B w w') (hB : g < B) : Fill w' g n F k := by
  obtain ⟨f, hf, hx⟩ := h
  exact ⟨f, hf.below hb hB, hx⟩
theorem Fill.rdk {w : World} {g n k : Nat} {F : Nat → Value} (h : Fill w g n F k) (hk : k ≤ n) : Rd w (some ⟨g, 0, none⟩) k F := by
  obtain ⟨f, hf, hx⟩ := h
  exact .inr ⟨g, 0, rfl, hf.lt, fun i hi => by rw [Nat.zero_add, hf.cell i (by omega), hx i hi]⟩

/-- a slice of pairs of numbers: host and count, two cells each -/
def KN (w : World) (a : Option Addr) (n : Nat) (hs cn : Nat → Int) : Prop :=
  n = 0 ∨ ∃ b o, a = some ⟨b, o, none⟩ ∧ b < w.heap.size ∧ ∀ i, i < n → w.cell? ⟨b, o + i * 2, none⟩ = some (.int .u32 (hs i)) ∧ w.cell? ⟨b, o + i * 2 + 1, none⟩ = some (.int .u32 (cn i))

theorem KN.below {w w' : World} {a : Option Addr} {n : Nat} {hs cn : Nat → Int} (h : KN w a n hs cn) (k : Below w.heap.size w w') : KN w' a n hs cn := by
  rcases h with h | ⟨b, o, ha, hb, hc⟩
  · exact .inl h
  · exact .inr ⟨b, o, ha, Nat.lt_of_lt_of_le hb k.size, fun i hi => by rw [k.cell hb, k.cell hb]; exact hc i hi⟩

end Go.Proofs.Qxb6609005a
