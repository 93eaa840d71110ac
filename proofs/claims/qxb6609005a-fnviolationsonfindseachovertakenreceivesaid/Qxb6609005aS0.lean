import Derived.Test.Qxb6609005aM4
import Derived.Sort.AssemblyPlain
namespace Go.Proofs.Qxb6609005a
open Go.RowKit
set_option linter.unusedSimpArgs false
set_option linter.unusedVariables false
set_option linter.unusedSectionVars false

/-- all that stood stands, but for block g -/
structure Else (g : Nat) (w W : World) : Prop where
  size : w.heap.size ≤ W.heap.size
  block : ∀ k, k < w.heap.size → k ≠ g → W.heap[k]? = w.heap[k]?
  os : W.os = w.os
  tape : W.tape = w.tape
  output : W.output = w.output
theorem Else.refl (g : Nat) (w : World) : Else g w w := ⟨Nat.le_refl _, fun _ _ _ => rfl, rfl, rfl, rfl⟩
theorem Else.trans {g : Nat} {a b c : World} (h : Else g a b) (k : Else g b c) : Else g a c :=
  ⟨Nat.le_trans h.size k.size, fun i hi hn => by rw [k.block i (Nat.lt_of_lt_of_le hi h.size) hn, h.block i hi hn], by rw [k.os, h.os], by rw [k.tape, h.tape], by rw [k.output, h.output]⟩
theorem Else.of_below {g : Nat} {w W : World} (h : Below w.heap.size w W) : Else g w W := ⟨h.size, fun k hk _ => h.block k hk, h.os, h.tape, h.output⟩
theorem Else.cell {g : Nat} {w W : World} (h : Else g w W) {b i : Nat} (hb : b < w.heap.size) (hne : b ≠ g) : W.cell? ⟨b, i, none⟩ = w.cell? ⟨b, i, none⟩ := World.cell?_of_block (a := ⟨b, i, none⟩) (h.block b hb hne)
theorem Else.own {g : Nat} {w W : World} (h : Else g w W) {b n : Nat} {f : Nat → Value} (ho : Own w b n f) (hne : b ≠ g) : Own W b n f := by
  have hb := h.block b ho.lt hne
  refine ⟨Nat.lt_of_lt_of_le ho.lt h.size, fun i hi => ?_, fun i => ?_⟩
  · rw [← ho.cell i hi]; exact World.cell?_of_block (a := ⟨b, i, none⟩) hb
  · rw [← ho.thaw i]; unfold World.frozen?; simp only [hb]
theorem Else.below {g : Nat} {w W w0 : World} (h : Else g w W) (hb : Below w0.heap.size w0 w) (hg : w0.heap.size ≤ g) : Below w0.heap.size w0 W :=
  ⟨by rw [h.os, hb.os], by rw [h.tape, hb.tape], by rw [h.output, hb.output], Nat.le_trans hb.size h.size, fun k hk => by rw [h.block k (Nat.lt_of_lt_of_le hk hb.size) (by omega), hb.block k hk]⟩

/-- what a sort leans on: a row at block 'row' that 'Inv' reads as an array of n; a 'less' that may lay blocks; a 'swap' -/
structure Sorter {α : Type} [Inhabited α] (Inv : World → Array α → Prop) (lt : α → α → Bool) (g : Nat) (lb : Array Value) (sf : Nat) (sb : Array Value) (row n : Nat) : Prop where
  small : n < 4611686018427387904
  size : ∀ w d, Inv w d → d.size = n
  inb : ∀ w d, Inv w d → row < w.heap.size
  grow : ∀ w w' d, Inv w d → Below w.heap.size w w' → Inv w' d
  far : ∃ B, (∀ w d, Inv w d → B ≤ w.heap.size) ∧ ∀ w w' d, Inv w d → Below B w w' → Inv w' d
  enter : ∀ args w, (callFunc g args).run Try.prog w = .ok (.enter g args) w
  less : ∀ w d, Inv w d → ∀ i j : Nat, i < n → j < n → Calls Try.prog g (#[.int .i64 i, .int .i64 j] ++ lb) w fun e w' => e = .returned (.bool (lt d[i]! d[j]!)) ∧ Below w.heap.size w w'
  swap : ∀ w d, Inv w d → ∀ i j : Nat, i < n → j < n → ∃ w', (callFunc sf (#[.int .i64 i, .int .i64 j] ++ sb)).run Try.prog w = .ok (.value (.tuple #[])) w' ∧ Inv w' (Sort.swp d i j) ∧ Else row w w'

/-- the pair of functions that a sort hands on -/
def lsV (g : Nat) (lb : Array Value) (sf : Nat) (sb : Array Value) : Value := .agg #[.func (.func g) #[] lb, .func (.func sf) #[] sb]

/-- a state of the sort inside a frame that was entered at w: the row reads dk, the frame's boxed pair lies at block w.heap.size -/
structure Fr {α : Type} (Inv : World → Array α → Prop) (row g : Nat) (lb : Array Value) (sf : Nat) (sb : Array Value) (w wr : World) (dk : Array α) : Prop where
  inv : Inv wr dk
  els : Else row w wr
  c0 : wr.cell? ⟨w.heap.size, 0, none⟩ = some (.func (.func g) #[] lb)
  c1 : wr.cell? ⟨w.heap.size, 1, none⟩ = some (.func (.func sf) #[] sb)
  lt : w.heap.size < wr.heap.size
  rw : row < w.heap.size

/-- what every helper of the sort gives back -/
def Done {α : Type} (Inv : World → Array α → Prop) (row : Nat) (w w' : World) (d : Array α) : Prop := Inv w' d ∧ Else row w w'

section
variable {α : Type} [Inhabited α] {Inv : World → Array α → Prop} {lt : α → α → Bool} {g : Nat} {lb : Array Value} {sf : Nat} {sb : Array Value} {row n : Nat} {w wr w' : World} {d d' dk : Array α}

theorem Fr.start (S : Sorter Inv lt g lb sf sb row n) (hI : Inv w d) : Fr Inv row g lb sf sb w (w.alloc (.cells #[.func (.func g) #[] lb, .func (.func sf) #[] sb] 111)) d := by
  have hA : Below w.heap.size w (w.alloc (.cells #[.func (.func g) #[] lb, .func (.func sf) #[] sb] 111)) := (Below.refl _ w).alloc (Nat.le_refl _) _
  refine ⟨S.grow _ _ _ hI hA, Else.of_below hA, ?_, ?_, by simp, S.inb w d hI⟩ <;> simp

theorem Fr.step (F : Fr Inv row g lb sf sb w wr dk) (hI : Inv w' d') (hE : Else row wr w') : Fr Inv row g lb sf sb w w' d' :=
  ⟨hI, F.els.trans hE, by rw [hE.cell F.lt (by have := F.rw; omega)]; exact F.c0, by rw [hE.cell F.lt (by have := F.rw; omega)]; exact F.c1, Nat.lt_of_lt_of_le F.lt hE.size, F.rw⟩

theorem Fr.grow (S : Sorter Inv lt g lb sf sb row n) (F : Fr Inv row g lb sf sb w wr dk) (hB : Below wr.heap.size wr w') : Fr Inv row g lb sf sb w w' dk := F.step (S.grow _ _ _ F.inv hB) (Else.of_below hB)

theorem Fr.less (S : Sorter Inv lt g lb sf sb row n) (F : Fr Inv row g lb sf sb w wr dk) (i j : Nat) (I J : Int) (h : I = i ∧ J = j ∧ i < n ∧ j < n) {v : Bool} (hv : lt dk[i]! dk[j]! = v) :
    Calls Try.prog g (#[.int .i64 I, .int .i64 J] ++ lb) wr fun e w' => e = .returned (.bool v) ∧ Fr Inv row g lb sf sb w w' dk := by
  obtain ⟨rfl, rfl, hi, hj⟩ := h
  exact (S.less wr dk F.inv i j hi hj).mono fun e w' ⟨he, hB⟩ => ⟨by rw [he, hv], F.grow S hB⟩

theorem Fr.swap (S : Sorter Inv lt g lb sf sb row n) (F : Fr Inv row g lb sf sb w wr dk) (i j : Nat) (I J : Int) (h : I = i ∧ J = j ∧ i < n ∧ j < n) :
    ∃ w', (callFunc sf (#[.int .i64 I, .int .i64 J] ++ sb)).run Try.prog wr = .ok (.value (.tuple #[])) w' ∧ Fr Inv row g lb sf sb w w' (Sort.swp dk i j) := by
  obtain ⟨rfl, rfl, hi, hj⟩ := h
  obtain ⟨w', h1, h2, h3⟩ := S.swap wr dk F.inv i j hi hj
  exact ⟨w', h1, F.step h2 h3⟩

theorem Fr.done (F : Fr Inv row g lb sf sb w wr dk) : Done Inv row w wr dk := ⟨F.inv, F.els⟩
theorem Fr.on (F : Fr Inv row g lb sf sb w wr dk) (D : Done Inv row wr w' d') : Fr Inv row g lb sf sb w w' d' := F.step D.1 D.2
end

end Go.Proofs.Qxb6609005a
