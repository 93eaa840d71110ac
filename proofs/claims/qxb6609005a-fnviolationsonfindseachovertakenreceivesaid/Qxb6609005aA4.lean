import Derived.Test.Qxb6609005aA3
namespace Go.Proofs.Qxb6609005a
open Go.RowKit Go.WideMaps Go.Maps Go.Sort
set_option linter.unusedSimpArgs false
set_option linter.unusedVariables false
set_option linter.unusedSectionVars false

theorem swK_ptr {n : Nat} (h : 2 ≤ n) : Lib.swapperK n Try.t35 22 = 3 := by
  have h1 : Try.t35.hasPointers = true := by kernel_rfl
  have h2 : Try.t35.bytes = 8 := by kernel_rfl
  unfold Lib.swapperK
  rw [if_neg (by simp; omega), if_neg (by simp; omega), if_pos (by simp [h1, h2])]

theorem boundV_ptr {n c : Nat} (h : 2 ≤ n) (p : Option Addr) : boundV 35 Try.t35 22 p n c = #[.slice p n c, typeHandle Try.prog 35] := by
  unfold boundV
  rw [swK_ptr h, if_neg (by omega)]

/-- link's sort, at one receive or more -/
theorem link_sort (g : Log) (wb w0 : World) (fb pb q rb n cap : Nat) (D : Array Nat) (LB : LogAt wb g) (hb : Below wb.heap.size wb w0) (hrb : wb.heap.size ≤ rb) (hn1 : 1 ≤ n) (hn : n < 65536)
    (hf : w0.cell? ⟨fb, 0, none⟩ = some (.func (.func 43) #[] #[])) (hp : w0.cell? ⟨pb, 0, none⟩ = some (.pointer (some ⟨q, 0, none⟩))) (hq : w0.cell? ⟨q, 0, none⟩ = some (.slice (some ⟨rb, 0, none⟩) n cap))
    (h1 : fb < w0.heap.size ∧ fb ≠ rb) (h2 : pb < w0.heap.size ∧ pb ≠ rb) (h3 : q < w0.heap.size ∧ q ≠ rb) (hD : LinkInv g w0 rb n w0 D) :
    Calls Try.prog 38 #[.iface 44 (.slice (some ⟨rb, 0, none⟩) n cap), .func (.func 44) #[] #[.pointer (some ⟨fb, 0, none⟩), .pointer (some ⟨pb, 0, none⟩)]] w0 fun e w' => e = .returned (.tuple #[]) ∧ ∃ D', LinkInv g w0 rb n w' D' ∧ Sort.PermIn 0 n D D' ∧ Sort.SortedIn g.lt 0 n D' := by
  by_cases hn2 : 2 ≤ n
  · have S := link_sorter g wb w0 fb pb q rb n cap LB hb hrb hn2 hn hf hp hq h1 h2 h3
    rw [← boundV_ptr hn2] at S
    refine (slice_sorted 44 35 Try.t44 Try.t35 info44 (by kernel_rfl) (by kernel_rfl) info35 22 (fun _ => by kernel_rfl) (some ⟨rb, 0, none⟩) cap hn (by rw [swK_ptr hn2]; kernel_rfl) g.swo S D w0 hD).mono ?_
    rintro e w' ⟨he, D', hd, hp, hs⟩
    exact ⟨he, D', hd.1, hp, hs⟩
  · obtain rfl : n = 1 := by omega
    refine (slice_tiny 44 35 Try.t44 Try.t35 info44 (by kernel_rfl) (by kernel_rfl) info35 22 (fun _ => by kernel_rfl) (some ⟨rb, 0, none⟩) 1 cap (Nat.le_refl _) 52 (by kernel_rfl) _ _ _ w0).mono ?_
    rintro e w' ⟨he, hB⟩
    refine ⟨he, D, hD.grow hB, ⟨rfl, fun _ _ => rfl, List.Perm.refl _⟩, fun i j h1 h2 h3 => by omega⟩

theorem info23 : (Try.prog.info? 23).map (fun i => (i.zero, i.size, i.bytes)) = some (some (.int .u64 0), 1, 8) := by kernel_rfl
theorem info3 : (Try.prog.info? 3).map (fun i => (i.zero, i.size, i.bytes)) = some (some (.int .i64 0), 1, 8) := by kernel_rfl

/-- a backlog just filled -/
def bk0 (rb n cap : Nat) : Nat → Value
  | 0 => .slice (some ⟨rb, 0, none⟩) n cap
  | 1 => .slice none 0 0
  | 2 => .slice none 0 0
  | 3 => .slice none 0 0
  | _ => .int .i64 0

/-- what stood stands, but for the blocks in S -/
structure Keep (S : Nat → Prop) (w W : World) : Prop where
  size : w.heap.size ≤ W.heap.size
  block : ∀ k, k < w.heap.size → ¬ S k → W.heap[k]? = w.heap[k]?
  os : W.os = w.os
  tape : W.tape = w.tape
  output : W.output = w.output
theorem Keep.refl (S : Nat → Prop) (w : World) : Keep S w w := ⟨Nat.le_refl _, fun _ _ _ => rfl, rfl, rfl, rfl⟩
theorem Keep.trans {S : Nat → Prop} {a b c : World} (h : Keep S a b) (k : Keep S b c) : Keep S a c :=
  ⟨Nat.le_trans h.size k.size, fun i hi hn => by rw [k.block i (Nat.lt_of_lt_of_le hi h.size) hn, h.block i hi hn], by rw [k.os, h.os], by rw [k.tape, h.tape], by rw [k.output, h.output]⟩
theorem Keep.of_below {S : Nat → Prop} {w W : World} (h : Below w.heap.size w W) : Keep S w W := ⟨h.size, fun k hk _ => h.block k hk, h.os, h.tape, h.output⟩
theorem Keep.of_else {S : Nat → Prop} {b : Nat} {w W : World} (h : Else b w W) (hS : S b) : Keep S w W := ⟨h.size, fun k hk hn => h.block k hk (fun e => hn (by rw [e]; exact hS)), h.os, h.tape, h.output⟩
theorem Keep.mono {S T : Nat → Prop} {w W : World} (h : Keep S w W) (hST : ∀ k, S k → T k) : Keep T w W := ⟨h.size, fun k hk hn => h.block k hk (fun e => hn (hST k e)), h.os, h.tape, h.output⟩
theorem Keep.cell {S : Nat → Prop} {w W : World} (h : Keep S w W) {b i : Nat} (hb : b < w.heap.size) (hne : ¬ S b) : W.cell? ⟨b, i, none⟩ = w.cell? ⟨b, i, none⟩ := World.cell?_of_block (a := ⟨b, i, none⟩) (h.block b hb hne)
theorem Keep.own {S : Nat → Prop} {w W : World} (h : Keep S w W) {b n : Nat} {f : Nat → Value} (ho : Own w b n f) (hne : ¬ S b) : Own W b n f := by
  have hb := h.block b ho.lt hne
  refine ⟨Nat.lt_of_lt_of_le ho.lt h.size, fun i hi => ?_, fun i => ?_⟩
  · rw [← ho.cell i hi]; exact World.cell?_of_block (a := ⟨b, i, none⟩) hb
  · rw [← ho.thaw i]; unfold World.frozen?; simp only [hb]
theorem Keep.below {S : Nat → Prop} {w W w0 : World} (h : Keep S w W) (hb : Below w0.heap.size w0 w) (hg : ∀ b, S b → w0.heap.size ≤ b) : Below w0.heap.size w0 W :=
  ⟨by rw [h.os, hb.os], by rw [h.tape, hb.tape], by rw [h.output, hb.output], Nat.le_trans hb.size h.size, fun k hk => by rw [h.block k (Nat.lt_of_lt_of_le hk hb.size) (fun e => by have := hg k e; omega), hb.block k hk]⟩
/-- a store into a block of S, or into one laid since -/
theorem Keep.set {S : Nat → Prop} {w W : World} (h : Keep S w W) {b : Nat} (i : Nat) (v : Value) (hS : S b ∨ w.heap.size ≤ b) : Keep S w (W.setCell ⟨b, i, none⟩ v) :=
  ⟨Nat.le_trans h.size (by simp), fun k hk hn => by
    rw [← h.block k hk hn]
    exact Below.heap_setCell W ⟨b, i, none⟩ v k (fun e => by subst e; rcases hS with e | e; · exact hn e
                                                             · exact absurd hk (by simpa using e)), by rw [← h.os]; rfl, by rw [← h.tape]; rfl, by rw [← h.output]; rfl⟩
theorem Keep.drew {S : Nat → Prop} {w W : World} (h : Keep S w W) : Keep S w W.drew := ⟨h.size, h.block, h.os, h.tape, h.output⟩
theorem Keep.drewN {S : Nat → Prop} {w W : World} (h : Keep S w W) (n : Nat) : Keep S w (W.drewN n) := ⟨h.size, h.block, h.os, h.tape, h.output⟩
theorem Keep.alloc {S : Nat → Prop} {w W : World} (h : Keep S w W) (o : Obj) : Keep S w (W.alloc o) := h.trans (Keep.of_below (below_alloc W o))

/-- a backlog in use -/
def bkF (rb cb nb pb n cap : Nat) (first : Int) : Nat → Value
  | 0 => .slice (some ⟨rb, 0, none⟩) n cap
  | 1 => .slice (some ⟨cb, 0, none⟩) n n
  | 2 => .slice (some ⟨nb, 0, none⟩) n n
  | 3 => .slice (some ⟨pb, 0, none⟩) n n
  | _ => .int .i64 first

/-- link's state: counts laid up to k1, neighbours up to k2 -/
structure LkS (g : Log) (w : World) (q rb n cap cb nb pb : Nat) (D : Array Nat) (k1 k2 : Nat) (W : World) : Prop where
  keep : Keep (fun b => b = q ∨ b = rb) w W
  a : W.cell? ⟨w.heap.size, 0, none⟩ = some (.pointer (some ⟨q, 0, none⟩))
  f : W.cell? ⟨w.heap.size + 1, 0, none⟩ = some (.func (.func 43) #[] #[])
  al : w.heap.size + 1 < W.heap.size
  oq : Own W q 5 (bkF rb cb nb pb n cap 0)
  or : Own W rb n (fun i => g.pt D[i]!)
  oc : Own W cb n (fun i => .int .u64 (if i < k1 then g.own D[i]! else 0))
  ox : Own W nb n (fun i => .int .i64 (if i < k2 then (i : Int) + 1 else 0))
  op : Own W pb n (fun i => .int .i64 (if i < k2 then (i : Int) - 1 else 0))
  ap : w.heap.size + 2 ≤ cb ∧ w.heap.size + 2 ≤ nb ∧ w.heap.size + 2 ≤ pb ∧ cb ≠ nb ∧ cb ≠ pb ∧ nb ≠ pb
  qw : q < w.heap.size ∧ rb < w.heap.size ∧ q ≠ rb

theorem LkS.grow {g : Log} {w : World} {q rb n cap cb nb pb : Nat} {D : Array Nat} {k1 k2 : Nat} {W W' : World} (h : LkS g w q rb n cap cb nb pb D k1 k2 W) (k : Below W.heap.size W W') : LkS g w q rb n cap cb nb pb D k1 k2 W' :=
  ⟨h.keep.trans (Keep.of_below k), by rw [k.cell (Nat.lt_trans (Nat.lt_succ_self _) h.al)]; exact h.a, by rw [k.cell h.al]; exact h.f, Nat.lt_of_lt_of_le h.al k.size, h.oq.below k h.oq.lt, h.or.below k h.or.lt, h.oc.below k h.oc.lt, h.ox.below k h.ox.lt, h.op.below k h.op.lt, h.ap, h.qw⟩
theorem LkS.drewN {g : Log} {w : World} {q rb n cap cb nb pb : Nat} {D : Array Nat} {k1 k2 : Nat} {W : World} (h : LkS g w q rb n cap cb nb pb D k1 k2 W) (m : Nat) : LkS g w q rb n cap cb nb pb D k1 k2 (W.drewN m) :=
  ⟨h.keep.drewN m, h.a, h.f, h.al, h.oq.drewN m, h.or.drewN m, h.oc.drewN m, h.ox.drewN m, h.op.drewN m, h.ap, h.qw⟩

theorem other {W : World} {b c i j : Nat} {v : Value} (h : b ≠ c) : (W.setCell ⟨c, i, none⟩ v).cell? ⟨b, j, none⟩ = W.cell? ⟨b, j, none⟩ := World.cell?_setCell_other _ _ _ _ (by intro e; injection e with e1 _; exact h e1.symm)

theorem LkS.count {g : Log} {w : World} {q rb n cap cb nb pb : Nat} {D : Array Nat} {k k2 : Nat} {W : World} (h : LkS g w q rb n cap cb nb pb D k k2 W) (hk : k < n) : LkS g w q rb n cap cb nb pb D (k + 1) k2 (W.setCell ⟨cb, k, none⟩ (.int .u64 (g.own D[k]!))) := by
  obtain ⟨h1, h2, h3, h4, h5, h6⟩ := h.ap
  obtain ⟨h7, h8, h9⟩ := h.qw
  refine ⟨h.keep.set _ _ (.inr (by omega)), by rw [other (by omega)]; exact h.a, by rw [other (by omega)]; exact h.f, by simpa using h.al, h.oq.setOther (by show cb ≠ q; omega) _, h.or.setOther (by show cb ≠ rb; omega) _, (h.oc.set k hk _).congr fun i hi => ?_, h.ox.setOther (by show cb ≠ nb; omega) _, h.op.setOther (by show cb ≠ pb; omega) _, h.ap, h.qw⟩
  by_cases e : i = k
  · subst e; simp
  · simp only [e, if_false]
    by_cases e2 : i < k
    · rw [if_pos e2, if_pos (by omega)]
    · rw [if_neg e2, if_neg (by omega)]

theorem LkS.links {g : Log} {w : World} {q rb n cap cb nb pb : Nat} {D : Array Nat} {k1 k : Nat} {W : World} (h : LkS g w q rb n cap cb nb pb D k1 k W) (hk : k < n) : LkS g w q rb n cap cb nb pb D k1 (k + 1) ((W.setCell ⟨nb, k, none⟩ (.int .i64 ((k : Int) + 1))).setCell ⟨pb, k, none⟩ (.int .i64 ((k : Int) - 1))) := by
  obtain ⟨h1, h2, h3, h4, h5, h6⟩ := h.ap
  obtain ⟨h7, h8, h9⟩ := h.qw
  refine ⟨(h.keep.set _ _ (.inr (by omega))).set _ _ (.inr (by omega)), by rw [other (by omega), other (by omega)]; exact h.a, by rw [other (by omega), other (by omega)]; exact h.f, by simpa using h.al, (h.oq.setOther (by show nb ≠ q; omega) _).setOther (by show pb ≠ q; omega) _, (h.or.setOther (by show nb ≠ rb; omega) _).setOther (by show pb ≠ rb; omega) _, (h.oc.setOther (by show nb ≠ cb; omega) _).setOther (by show pb ≠ cb; omega) _,
    ((h.ox.set k hk _).setOther (by show pb ≠ nb; omega) _).congr fun i hi => ?_, ((h.op.setOther (by show nb ≠ pb; omega) _).set k hk _).congr fun i hi => ?_, h.ap, h.qw⟩
  all_goals
    by_cases e : i = k
    · subst e; simp
    · simp only [e, if_false]
      by_cases e2 : i < k
      · rw [if_pos e2, if_pos (by omega)]
      · rw [if_neg e2, if_neg (by omega)]

theorem Own.made1 (w : World) (z : Value) (n : Nat) (e : TypeId) : Own (w.alloc (.cells (madeCells #[z] n) e)) w.heap.size n (fun _ => z) :=
  (Own.made w #[z] n e).congr fun i hi => by simp [Nat.mod_one]

theorem LkS.start {g : Log} {w w2 : World} {q rb n cap cb nb pb : Nat} {D : Array Nat} (K2 : Keep (fun b => b = q ∨ b = rb) w w2) (Q2 : Own w2 q 5 (fun j => if j = 1 then .slice (some ⟨cb, 0, none⟩) n n else bk0 rb n cap j)) (R2 : Own w2 rb n (fun i => g.pt D[i]!)) (C2 : Own w2 cb n (fun _ => .int .u64 0))
    (a2 : w2.cell? ⟨w.heap.size, 0, none⟩ = some (.pointer (some ⟨q, 0, none⟩))) (f2 : w2.cell? ⟨w.heap.size + 1, 0, none⟩ = some (.func (.func 43) #[] #[])) (hcb : w.heap.size + 2 ≤ cb) (s2 : w2.heap.size = cb + 1) (hqw : q < w.heap.size ∧ rb < w.heap.size ∧ q ≠ rb)
    (hnp : (nb = w2.heap.size ∧ pb = w2.heap.size + 1) ∨ (pb = w2.heap.size ∧ nb = w2.heap.size + 1)) :
    LkS g w q rb n cap cb nb pb D 0 0 ((((w2.setCell ⟨q, 2, none⟩ (.slice (some ⟨nb, 0, none⟩) n n)).setCell ⟨q, 3, none⟩ (.slice (some ⟨pb, 0, none⟩) n n)).alloc (.cells (madeCells #[.int .i64 0] n) 3)).alloc (.cells (madeCells #[.int .i64 0] n) 3)).drew := by
  obtain ⟨W0, hW0⟩ : ∃ W0, W0 = (w2.setCell ⟨q, 2, none⟩ (.slice (some ⟨nb, 0, none⟩) n n)).setCell ⟨q, 3, none⟩ (.slice (some ⟨pb, 0, none⟩) n n) := ⟨_, rfl⟩
  have hs0 : W0.heap.size = w2.heap.size := by rw [hW0]; simp
  have K0 : Keep (fun b => b = q ∨ b = rb) w W0 := by rw [hW0]; exact (K2.set _ _ (.inl (.inl rfl))).set _ _ (.inl (.inl rfl))
  have Q0 := (Q2.set 2 (by omega) (.slice (some ⟨nb, 0, none⟩) n n)).set 3 (by omega) (.slice (some ⟨pb, 0, none⟩) n n)
  have R0 : Own W0 rb n (fun i => g.pt D[i]!) := by rw [hW0]; exact (R2.setOther (by show q ≠ rb; omega) _).setOther (by show q ≠ rb; omega) _
  have C0 : Own W0 cb n (fun _ => .int .u64 0) := by rw [hW0]; exact (C2.setOther (by show q ≠ cb; omega) _).setOther (by show q ≠ cb; omega) _
  have a0 : W0.cell? ⟨w.heap.size, 0, none⟩ = some (.pointer (some ⟨q, 0, none⟩)) := by rw [hW0, other (by omega), other (by omega)]; exact a2
  have f0 : W0.cell? ⟨w.heap.size + 1, 0, none⟩ = some (.func (.func 43) #[] #[]) := by rw [hW0, other (by omega), other (by omega)]; exact f2
  rw [← hW0] at Q0 ⊢
  have N1 := Own.made1 W0 (.int .i64 0) n 3
  have N2 := Own.made1 (W0.alloc (.cells (madeCells #[.int .i64 0] n) 3)) (.int .i64 0) n 3
  have e2 : (W0.alloc (.cells (madeCells #[.int .i64 0] n) 3)).heap.size = w2.heap.size + 1 := by simp [hs0]
  rw [e2] at N2
  rw [hs0] at N1
  have N1' := (N1.alloc (.cells (madeCells #[.int .i64 0] n) 3)).drew
  have N2' := N2.drew
  refine ⟨((K0.alloc _).alloc _).drew, by rw [World.cell?_drew, cellA (by omega), cellA (by omega)]; exact a0, by rw [World.cell?_drew, cellA (by omega), cellA (by omega)]; exact f0, by simp; omega, ?_, ((R0.alloc _).alloc _).drew, (((C0.alloc _).alloc _).drew).congr fun i hi => by simp, ?_, ?_, ?_, hqw⟩
  · refine (((Q0.alloc _).alloc _).drew).congr fun i hi => ?_
    match i, hi with
    | 0, _ => rfl
    | 1, _ => rfl
    | 2, _ => rfl
    | 3, _ => rfl
    | 4, _ => rfl
  · rcases hnp with ⟨rfl, rfl⟩ | ⟨rfl, rfl⟩
    · exact N1'.congr fun i hi => by simp
    · exact N2'.congr fun i hi => by simp
  · rcases hnp with ⟨rfl, rfl⟩ | ⟨rfl, rfl⟩
    · exact N2'.congr fun i hi => by simp
    · exact N1'.congr fun i hi => by simp
  · omega

/-- a backlog in use as it lies: receives, counts, neighbours, the first -/
structure BkAt (W : World) (q rb cb nb pb n cap : Nat) (E : Nat → Value) (cn nx pv : Nat → Int) (first : Int) : Prop where
  oq : Own W q 5 (bkF rb cb nb pb n cap first)
  or : Own W rb n E
  oc : Own W cb n (fun i => .int .u64 (cn i))
  ox : Own W nb n (fun i => .int .i64 (nx i))
  op : Own W pb n (fun i => .int .i64 (pv i))
  ap : q ≠ rb ∧ q ≠ cb ∧ q ≠ nb ∧ q ≠ pb ∧ rb ≠ cb ∧ rb ≠ nb ∧ rb ≠ pb ∧ cb ≠ nb ∧ cb ≠ pb ∧ nb ≠ pb

/-- what link leaves -/
def Linked (g : Log) (w w' : World) (q rb n cap : Nat) (D : Array Nat) : Prop :=
  ∃ D' cb nb pb, BkAt w' q rb cb nb pb n cap (fun i => g.pt D'[i]!) (fun i => g.own D'[i]!) (fun i => if i + 1 = n then -1 else (i : Int) + 1) (fun i => (i : Int) - 1) 0 ∧ Keep (fun b => b = q ∨ b = rb) w w' ∧
    w.heap.size ≤ cb ∧ w.heap.size ≤ nb ∧ w.heap.size ≤ pb ∧ Sort.PermIn 0 n D D' ∧ Sort.SortedIn g.lt 0 n D' ∧ D'.size = n

theorem LkS.done {g : Log} {w : World} {q rb n cap cb nb pb : Nat} {D D' : Array Nat} {W : World} (h : LkS g w q rb n cap cb nb pb D' n n W) (hn : 1 ≤ n) (h1 : Sort.PermIn 0 n D D') (h2 : Sort.SortedIn g.lt 0 n D') (h3 : D'.size = n) :
    Linked g w ((W.setCell ⟨nb, n - 1, none⟩ (.int .i64 (-1))).setCell ⟨q, 4, none⟩ (.int .i64 0)) q rb n cap D := by
  obtain ⟨e1, e2, e3, e4, e5, e6⟩ := h.ap
  obtain ⟨e7, e8, e9⟩ := h.qw
  refine ⟨D', cb, nb, pb, ⟨((h.oq.setOther (by show nb ≠ q; omega) _).set 4 (by omega) _).congr fun i hi => ?_, (h.or.setOther (by show nb ≠ rb; omega) _).setOther (by show q ≠ rb; omega) _, ((h.oc.setOther (by show nb ≠ cb; omega) _).setOther (by show q ≠ cb; omega) _).congr fun i hi => by simp [hi],
    ((h.ox.set (n - 1) (by omega) _).setOther (by show q ≠ nb; omega) _).congr fun i hi => ?_, ((h.op.setOther (by show nb ≠ pb; omega) _).setOther (by show q ≠ pb; omega) _).congr fun i hi => by simp [hi], by omega⟩, (h.keep.set _ _ (.inr (by omega))).set _ _ (.inl (.inl rfl)), by omega, by omega, by omega, h1, h2, h3⟩
  · match i, hi with
    | 0, _ => rfl
    | 1, _ => rfl
    | 2, _ => rfl
    | 3, _ => rfl
    | 4, _ => rfl
  · by_cases e : i = n - 1
    · subst e; simp [show n - 1 + 1 = n by omega]
    · have : ¬ i + 1 = n := by omega
      simp [e, hi, this]

set_option maxRecDepth 100000 in
set_option maxHeartbeats 2000000 in
theorem link_any (g : Log) (wb w : World) (q rb n cap : Nat) (D : Array Nat) (LB : LogAt wb g) (hb : Below wb.heap.size wb w) (hrb : wb.heap.size ≤ rb) (hn1 : 1 ≤ n) (hn : n < 65536)
    (hq : Own w q 5 (bk0 rb n cap)) (hne : q ≠ rb) (hqb : wb.heap.size ≤ q) (hr : Own w rb n (fun i => g.pt D[i]!)) (hDs : D.size = n) (hok : ∀ i, i < n → D[i]! < g.m ∧ g.rv D[i]! = true) :
    Calls Try.prog 35 #[.pointer (some ⟨q, 0, none⟩)] w fun e w' => e = .returned (.tuple #[]) ∧ Linked g w w' q rb n cap D := by
  obtain ⟨w0, hw0⟩ : ∃ w0, w0 = ((w.alloc (.cells #[.pointer (some ⟨q, 0, none⟩)] 87)).alloc (.cells #[.func (.func 43) #[] #[]] 98)) := ⟨_, rfl⟩
  have hBw : Below w.heap.size w w0 := by rw [hw0]; exact (below_alloc w _).trans ((below_alloc _ _).mono (by simp))
  have hs0 : w0.heap.size = w.heap.size + 2 := by rw [hw0]; simp
  have hql := hq.lt
  have hrl := hr.lt
  have cA : w0.cell? ⟨w.heap.size, 0, none⟩ = some (.pointer (some ⟨q, 0, none⟩)) := by rw [hw0]; simp
  have cF : w0.cell? ⟨w.heap.size + 1, 0, none⟩ = some (.func (.func 43) #[] #[]) := by rw [hw0]; simp
  have cQ : w0.cell? ⟨q, 0, none⟩ = some (.slice (some ⟨rb, 0, none⟩) n cap) := by rw [hBw.cell hql]; exact hq.cell 0 (by omega)
  have hI : LinkInv g w0 rb n w0 D := ⟨Else.refl _ _, hDs, hr.below hBw hrl, hok, by omega⟩
  have hsort := link_sort g wb w0 (w.heap.size + 1) w.heap.size q rb n cap D LB (hb.trans (hBw.mono hb.size)) hrb hn1 hn cF cA cQ (by omega) (by omega) (by omega) hI
  have c0 : w.cell? ⟨q, 0, none⟩ = some (.slice (some ⟨rb, 0, none⟩) n cap) := hq.cell 0 (by omega)
  have m57 := run_mk1 (P := Try.prog) 57 23 (.int .u64 0) 8 Try.underlying57 info23 rfl n (by omega) (by omega)
  have m56 := run_mk1 (P := Try.prog) 56 3 (.int .i64 0) 8 Try.underlying56 info3 rfl n (by omega) (by omega)
  have HQ : Hid (Own w0 q 5 (bk0 rb n cap)) := hq.below hBw hql
  have HW : Hid (Below w.heap.size w w0) := hBw
  have hst : (store ⟨w.heap.size + 1, 0, none⟩ (.func (.func 43) #[] #[])).run Try.prog ((w.alloc (.cells #[.pointer (some ⟨q, 0, none⟩)] 87)).alloc (.cells #[.nilFunc] 98)) = .ok () w0 := by
    rw [run_store _ _ _ _ _ rfl, World.setCell_alloc_at _ _ _ _ _ (by simp), hw0]; simp
  clear hI hw0
  go_enter Try.func35, Try.ntmps35
  go_wp2_with fail
  go_at_call 38
  refine hsort.mono ?_
  rintro e w1 ⟨rfl, D', I1, hperm, hsorted⟩
  have c1A : w1.cell? ⟨w.heap.size, 0, none⟩ = some (.pointer (some ⟨q, 0, none⟩)) := by rw [I1.els.cell (by omega) (by omega)]; exact cA
  have c1F : w1.cell? ⟨w.heap.size + 1, 0, none⟩ = some (.func (.func 43) #[] #[]) := by rw [I1.els.cell (by omega) (by omega)]; exact cF
  have Q1 : Own w1 q 5 (bk0 rb n cap) := I1.els.own HQ.out hne
  have q0 := Q1.cell 0 (by omega)
  have q1 := Q1.cell 1 (by omega)
  have q2 := Q1.cell 2 (by omega)
  have q3 := Q1.cell 3 (by omega)
  have q4 := Q1.cell 4 (by omega)
  have t1 := Q1.thaw 1
  have t2 := Q1.thaw 2
  have t3 := Q1.thaw 3
  have t4 := Q1.thaw 4
  simp only [bk0] at q0 q1 q2 q3 q4
  have hs1 := I1.els.size
  have hqw : q < w1.heap.size := by omega
  clear cA cF cQ c0 hsort
  have hqA : q ≠ w.heap.size := by omega
  have aA : ∀ o, (w1.alloc o).cell? ⟨w.heap.size, 0, none⟩ = some (.pointer (some ⟨q, 0, none⟩)) := fun o => by rw [cellA (by omega)]; exact c1A
  have aq1 : ∀ o, (w1.alloc o).cell? ⟨q, 1, none⟩ = some (.slice none 0 0) := fun o => by rw [cellA (by omega)]; exact q1
  have at1 : ∀ o, (w1.alloc o).frozen? ⟨q, 1, none⟩ = false := fun o => (Q1.alloc o).thaw 1
  go_upto_region 4 with fail
  go_region
  have K2 : Keep (fun b => b = q ∨ b = rb) w ((w1.setCell ⟨q, 1, none⟩ (.slice (some ⟨w1.heap.size, 0, none⟩) n n)).alloc (.cells (madeCells #[.int .u64 0] n) 23)).drew :=
    ((((Keep.of_below HW.out).trans (Keep.of_else I1.els (.inr rfl))).set _ _ (.inl (.inl rfl))).alloc _).drew
  have Q2 : Own ((w1.setCell ⟨q, 1, none⟩ (.slice (some ⟨w1.heap.size, 0, none⟩) n n)).alloc (.cells (madeCells #[.int .u64 0] n) 23)).drew q 5 _ := ((Q1.set 1 (by omega) (.slice (some ⟨w1.heap.size, 0, none⟩) n n)).alloc _).drew
  have R2 : Own ((w1.setCell ⟨q, 1, none⟩ (.slice (some ⟨w1.heap.size, 0, none⟩) n n)).alloc (.cells (madeCells #[.int .u64 0] n) 23)).drew rb n _ := ((I1.own.setOther (by show q ≠ rb; omega) (.slice (some ⟨w1.heap.size, 0, none⟩) n n)).alloc _).drew
  have C2 : Own ((w1.setCell ⟨q, 1, none⟩ (.slice (some ⟨w1.heap.size, 0, none⟩) n n)).alloc (.cells (madeCells #[.int .u64 0] n) 23)).drew w1.heap.size n (fun _ => .int .u64 0) := by
    have h := (Own.made (w1.setCell ⟨q, 1, none⟩ (.slice (some ⟨w1.heap.size, 0, none⟩) n n)) #[.int .u64 0] n 23).drew
    simp only [World.size_setCell] at h
    exact h.congr fun i hi => by simp [Nat.mod_one]
  have a2 : (((w1.setCell ⟨q, 1, none⟩ (.slice (some ⟨w1.heap.size, 0, none⟩) n n)).alloc (.cells (madeCells #[.int .u64 0] n) 23)).drew).cell? ⟨w.heap.size, 0, none⟩ = some (.pointer (some ⟨q, 0, none⟩)) := by
    rw [World.cell?_drew, cellA (by simp; omega), other (by omega)]; exact c1A
  have f2 : (((w1.setCell ⟨q, 1, none⟩ (.slice (some ⟨w1.heap.size, 0, none⟩) n n)).alloc (.cells (madeCells #[.int .u64 0] n) 23)).drew).cell? ⟨w.heap.size + 1, 0, none⟩ = some (.func (.func 43) #[] #[]) := by
    rw [World.cell?_drew, cellA (by simp; omega), other (by omega)]; exact c1F
  have s2 : (((w1.setCell ⟨q, 1, none⟩ (.slice (some ⟨w1.heap.size, 0, none⟩) n n)).alloc (.cells (madeCells #[.int .u64 0] n) 23)).drew).heap.size = w1.heap.size + 1 := by simp
  have OK1 : Hid (∀ i, i < n → D'[i]! < g.m ∧ g.rv D'[i]! = true) := I1.ok
  have DS1 : Hid (D'.size = n) := I1.size
  generalize ((w1.setCell ⟨q, 1, none⟩ (.slice (some ⟨w1.heap.size, 0, none⟩) n n)).alloc (.cells (madeCells #[.int .u64 0] n) 23)).drew = w2 at *
  obtain ⟨cb, hcb⟩ : ∃ cb, cb = w1.heap.size := ⟨_, rfl⟩
  rw [← hcb] at Q2 C2 s2
  have hcb2 : w.heap.size + 2 ≤ cb := by omega
  have hA2 : w.heap.size < w2.heap.size := by omega
  have hq2 : q < w2.heap.size := by omega
  have u2 := Q2.cell 2 (by omega)
  have u3 := Q2.cell 3 (by omega)
  have v2 := Q2.thaw 2
  have v3 := Q2.thaw 3
  simp [bk0] at u2 u3
  have hA3 : w.heap.size < w2.heap.size + 1 := by omega
  have hq3 : q < w2.heap.size + 1 := by omega
  have hcs2 : cb < w2.heap.size := by omega
  have S2 : Hid (w2.heap.size = cb + 1) := s2
  clear s2
  clear hcb I1 Q1 q0 q1 q2 q3 q4 t1 t2 t3 t4 c1A c1F aA aq1 at1 HQ
  go_upto_region 5 with fail
  go_cut [] from 23 to 78 (fun wx => ∃ nb pb, LkS g w q rb n cap cb nb pb D' 0 0 wx)
  case first =>
    go_region
    all_goals
      go_wp2_with fail
      go_meet
      first
        | exact ⟨_, _, LkS.start K2 Q2 R2 C2 a2 f2 hcb2 S2.out ⟨hql, hrl, hne⟩ (.inr ⟨rfl, rfl⟩)⟩
        | exact ⟨_, _, LkS.start K2 Q2 R2 C2 a2 f2 hcb2 S2.out ⟨hql, hrl, hne⟩ (.inl ⟨rfl, rfl⟩)⟩
  case rest =>
    obtain ⟨nb, pb, S⟩ := hcut
    clear K2 Q2 R2 C2 a2 f2 u2 u3 v2 v3 hA2 hq2 hA3 hq3 S2 hcs2 m57 m56
    have hown : Hid (∀ k W k1 k2, k < n → LkS g w q rb n cap cb nb pb D' k1 k2 W → Calls Try.prog 43 #[.pointer (some ⟨g.E D'[k]!, 0, none⟩)] W fun e w' => e = .returned (.int .u64 (g.own D'[k]!)) ∧ Below W.heap.size W w') := fun k W k1 k2 hk s =>
      own_any g _ W (LB.below (s.keep.below hb (fun b hb' => by rcases hb' with rfl | rfl <;> omega))) (OK1.out k hk).1 (OK1.out k hk).2
    have z0 := S.oq.cell 0 (by omega)
    simp only [bkF] at z0
    have za := S.a
    go_wp2_with fail
    go_loopg [38] n (fun kx s wr => ∃ k : Nat, k ≤ n ∧ s = .int .i64 k ∧ n - k ≤ kx ∧ LkS g w q rb n cap cb nb pb D' k k wr)
    case atStart => exact ⟨0, Nat.zero_le _, rfl, by omega, S⟩
    case round =>
      clear S z0 za
      obtain ⟨k, hk, rfl, hkx, S⟩ := hrel
      by_cases hlt : k < n
      · have hltz : (k : Int) < (n : Int) := by omega
        have r0 : wr.cell? ⟨rb, k, none⟩ = some (.pointer (some ⟨g.E D'[k]!, 0, none⟩)) := S.or.cell k hlt
        have za := S.a
        have zf := S.f
        have z1 := S.oq.cell 1 (by omega)
        simp only [bkF] at z1
        have ck := S.oc.cell k hlt
        have ct := S.oc.thaw k
        go_upto_region 9 with fail
        go_cut [] from 43 to 68 (fun wx => LkS g w q rb n cap cb nb pb D' (k + 1) k wx)
        case first =>
          go_region_with (go_at_call 43; refine (hown.out k _ k k hlt (by first | exact S | exact S.drewN 1 | exact (S.drewN 1).drewN 1)).mono ?_; rintro e w' ⟨rfl, hB⟩; have S' : LkS g w q rb n cap cb nb pb D' k k w' := (by first | exact S.grow hB | exact (S.drewN 1).grow hB); have za' := S'.a; have z1' : w'.cell? ⟨q, 1, none⟩ = some (.slice (some ⟨cb, 0, none⟩) n n) := S'.oq.cell 1 (by omega); have ck' := S'.oc.cell k hlt; have ct' := S'.oc.thaw k)
          all_goals
            go_wp2_with fail
            go_meet
            exact S'.count hlt
        case rest =>
          clear S r0 za zf z1 ck ct
          have S := hcut
          clear hcut
          have za := S.a
          have z2 := S.oq.cell 2 (by omega)
          have z3 := S.oq.cell 3 (by omega)
          simp only [bkF] at z2 z3
          have cx := S.ox.cell k hlt
          have tx := S.ox.thaw k
          have cp := S.op.cell k hlt
          have tp := S.op.thaw k
          have hnp : nb ≠ pb := S.ap.2.2.2.2.2
          have hqn : q ≠ nb := by have := S.ap; have := S.qw; omega
          have hqp : q ≠ pb := by have := S.ap; have := S.qw; omega
          have hAn : w.heap.size ≠ nb := by have := S.ap; omega
          have hAp : w.heap.size ≠ pb := by have := S.ap; omega
          have S1 : Hid _ := S.links hlt
          clear S
          go_upto_region 10 with fail
          go_region
          go_wp2
          go_roundg (n - (k + 1))
          case measure => omega
          case rel => exact ⟨k + 1, by omega, by go_num, Nat.le_refl _, S1.out.drewN 1⟩
      · obtain rfl : k = n := by omega
        have FIN := S.done hn1 hperm hsorted DS1.out
        have za := S.a
        have z2 := S.oq.cell 2 (by omega)
        have z4 := S.oq.cell 4 (by omega)
        simp only [bkF] at z2 z4
        have t4 := S.oq.thaw 4
        have hqn : q ≠ nb := by have := S.ap; have := S.qw; omega
        have hAn : w.heap.size ≠ nb := by have := S.ap; omega
        have cx := S.ox.cell (k - 1) (by omega)
        have tx := S.ox.thaw (k - 1)
        have hkz : ¬ (k : Int) < (k : Int) := by omega
        have e1 : ((k : Int) - 1).toNat = k - 1 := by omega
        have e2 : (0 : Int) ≤ (k : Int) - 1 := by omega
        clear S
        go_wp2
        go_end0
        exact ⟨rfl, FIN⟩

end Go.Proofs.Qxb6609005a
