import Derived.Test.Qxb6608767aW2
import Derived.Lib.SliceRun
namespace Go.Proofs.Qxb6608767a
open Go.RowKit
set_option linter.unusedSimpArgs false
set_option linter.unusedVariables false

theorem cellA {w : World} {o : Obj} {b i : Nat} (h : b < w.heap.size) : (w.alloc o).cell? ⟨b, i, none⟩ = w.cell? ⟨b, i, none⟩ := World.cell?_of_block (a := ⟨b, i, none⟩) (Below.heap_alloc w o b h)

/-- block b is a rowBlock of n rows with no order -/
structure Plain (w : World) (b n : Nat) (nm : Nat → ByteArray) (vl : Nat → Int) (g : Nat) : Prop where
  hb : b < w.heap.size
  hg : g < w.heap.size
  c0 : w.cell? ⟨b, 0, none⟩ = some (.slice (some ⟨g, 0, none⟩) n n)
  c1 : w.cell? ⟨b, 1, none⟩ = some (.slice none 0 0)
  hc : ∀ i, i < n → w.cell? ⟨g, i * 2, none⟩ = some (.string (nm i))
  hv : ∀ i, i < n → w.cell? ⟨g, i * 2 + 1, none⟩ = some (.int .i64 (vl i))

/-- block b is a rowBlock of n rows with an order -/
structure Ordered (w : World) (b n : Nat) (nm : Nat → ByteArray) (od : Nat → Int) (g go : Nat) : Prop where
  hb : b < w.heap.size
  hg : g < w.heap.size
  ho : go < w.heap.size
  c0 : w.cell? ⟨b, 0, none⟩ = some (.slice (some ⟨g, 0, none⟩) n n)
  c1 : w.cell? ⟨b, 1, none⟩ = some (.slice (some ⟨go, 0, none⟩) n n)
  hc : ∀ i, i < n → w.cell? ⟨g, i * 2, none⟩ = some (.string (nm i))
  hd : ∀ i, i < n → w.cell? ⟨go, i, none⟩ = some (.int .u16 (od i))

theorem Plain.below {w w' : World} {b n : Nat} {nm : Nat → ByteArray} {vl : Nat → Int} {g : Nat} (h : Plain w b n nm vl g) (k : Below w.heap.size w w') : Plain w' b n nm vl g :=
  ⟨Nat.lt_of_lt_of_le h.hb k.size, Nat.lt_of_lt_of_le h.hg k.size, by rw [k.cell h.hb]; exact h.c0, by rw [k.cell h.hb]; exact h.c1,
   fun i hi => by rw [k.cell h.hg]; exact h.hc i hi, fun i hi => by rw [k.cell h.hg]; exact h.hv i hi⟩
theorem Ordered.below {w w' : World} {b n : Nat} {nm : Nat → ByteArray} {od : Nat → Int} {g go : Nat} (h : Ordered w b n nm od g go) (k : Below w.heap.size w w') : Ordered w' b n nm od g go :=
  ⟨Nat.lt_of_lt_of_le h.hb k.size, Nat.lt_of_lt_of_le h.hg k.size, Nat.lt_of_lt_of_le h.ho k.size, by rw [k.cell h.hb]; exact h.c0, by rw [k.cell h.hb]; exact h.c1,
   fun i hi => by rw [k.cell h.hg]; exact h.hc i hi, fun i hi => by rw [k.cell h.ho]; exact h.hd i hi⟩

set_option maxHeartbeats 400000 in
theorem search_plain (b n : Nat) (nm : Nat → ByteArray) (vl : Nat → Int) (g : Nat) (q : ByteArray) (w : World) (hn : n ≤ 4096) (hp : Plain w b n nm vl g) (hm : Mono nm q n) :
    Calls Try.prog 12 #[.pointer (some ⟨b, 0, none⟩), .string q] w fun e w' => Found nm q n e ∧ Below w.heap.size w w' := by
  have q40 : ∀ (w : World) (a : Option Addr) (n c n' c' : Nat), (binOp .eql 40 (.slice a n c) (.slice none n' c')).run Try.prog w = .ok (.bool a.isNone) w := fun w a n c n' c' => Lib.run_eql_slice_nil w _ _ a n c n' c' Try.underlying40
  have HP : Hid (Plain w b n nm vl g) := hp
  have hb := hp.hb; have c0 := hp.c0; have c1 := hp.c1
  clear hp
  have HM : Hid (Mono nm q n) := hm
  clear hm
  go_enter Try.func12, Try.ntmps12
  go_wp2_with fail
  refine (bsf14 g n nm vl q _ hn ?_ ?_ ?_ HM.out).mono ?_
  · intro i hi; rw [cellA HP.out.hg]; exact HP.out.hc i hi
  · intro i hi; rw [cellA HP.out.hg]; exact HP.out.hv i hi
  · have := HP.out.hg; simp; omega
  rintro e w' ⟨⟨k, hk, hs, rfl⟩, hbel⟩
  go_wp2
  go_ret2
  exact ⟨⟨k, hk, hs, rfl⟩, ((Below.refl _ _).alloc (Nat.le_refl _) _).trans (hbel.mono (by simp))⟩

set_option maxHeartbeats 400000 in
theorem search_ordered (b n : Nat) (nm : Nat → ByteArray) (od : Nat → Int) (g go : Nat) (q : ByteArray) (w : World) (hn : n ≤ 4096) (hp : Ordered w b n nm od g go) (hpl : ∀ i, i < n → plN (od i) < n)
    (hm : Mono (fun k => nm (plN (od k))) q n) :
    Calls Try.prog 12 #[.pointer (some ⟨b, 0, none⟩), .string q] w fun e w' => Found (fun k => nm (plN (od k))) q n e ∧ Below w.heap.size w w' := by
  have q40 : ∀ (w : World) (a : Option Addr) (n c n' c' : Nat), (binOp .eql 40 (.slice a n c) (.slice none n' c')).run Try.prog w = .ok (.bool a.isNone) w := fun w a n c n' c' => Lib.run_eql_slice_nil w _ _ a n c n' c' Try.underlying40
  have HP : Hid (Ordered w b n nm od g go) := hp
  have hb := hp.hb; have c0 := hp.c0; have c1 := hp.c1
  clear hp
  have HM : Hid (Mono (fun k => nm (plN (od k))) q n) := hm
  have HL : Hid (∀ i, i < n → plN (od i) < n) := hpl
  clear hm hpl
  go_enter Try.func12, Try.ntmps12
  go_wp2_with fail
  refine (bsf17 w.heap.size b g go n nm od q _ hn ?_ ?_ HL.out ?_ ?_ HM.out).mono ?_
  · simp
  · rw [cellA hb]; exact c0
  · intro i hi; rw [cellA HP.out.hg]; exact HP.out.hc i hi
  · intro i hi; rw [cellA HP.out.ho]; exact HP.out.hd i hi
  rintro e w' ⟨⟨k, hk, hs, rfl⟩, m, rfl⟩
  go_wp2
  go_ret2
  exact ⟨⟨k, hk, hs, rfl⟩, below_drewN ((Below.refl _ _).alloc (Nat.le_refl _) _) _⟩

/-- ZZsearch hands on what search says. -/
theorem zzsearch (b : Nat) (q : ByteArray) (w : World) (f : Nat → ByteArray) (n : Nat)
    (h : Calls Try.prog 12 #[.pointer (some ⟨b, 0, none⟩), .string q] w fun e w' => Found f q n e ∧ Below w.heap.size w w') :
    Calls Try.prog 9 #[.pointer (some ⟨b, 0, none⟩), .string q] w fun e w' => Found f q n e ∧ Below w.heap.size w w' := by
  have H : Hid (Calls Try.prog 12 #[.pointer (some ⟨b, 0, none⟩), .string q] w fun e w' => Found f q n e ∧ Below w.heap.size w w') := h
  clear h
  go_enter Try.func9, Try.ntmps9
  go_wp2_with fail
  refine H.out.mono ?_
  rintro e w' ⟨⟨k, hk, hs, rfl⟩, hbel⟩
  go_wp2
  go_ret2
  exact ⟨⟨k, hk, hs, rfl⟩, hbel⟩

theorem Found.law {f : Nat → ByteArray} {q : ByteArray} {n : Nat} {e : Ending} (h : Found f q n e) (hasc : ∀ i, i + 1 < n → cmpB (f i) (f (i + 1)) < 0) :
    e = .returned (.tuple #[.int .i64 (lessN f q n), .bool (hasN f q n)]) := by
  obtain ⟨k, hk, hs, rfl⟩ := h
  obtain ⟨h1, h2⟩ := search_law f q n k hk hasc hs.1 (fun i a b => hs.2 i a b)
  rw [h2]
  unfold lessN hasN
  rw [← h1]

theorem zzsearch_plain (b n : Nat) (nm : Nat → ByteArray) (vl : Nat → Int) (g : Nat) (q : ByteArray) (w : World) (hn : n ≤ 4096) (hp : Plain w b n nm vl g) (hasc : ∀ i, i + 1 < n → cmpB (nm i) (nm (i + 1)) < 0) :
    Calls Try.prog 9 #[.pointer (some ⟨b, 0, none⟩), .string q] w fun e w' => e = .returned (.tuple #[.int .i64 (lessN nm q n), .bool (hasN nm q n)]) ∧ Below w.heap.size w w' :=
  (zzsearch b q w nm n (search_plain b n nm vl g q w hn hp (search_mono nm q n hasc))).mono fun e w' ⟨h1, h2⟩ => ⟨h1.law hasc, h2⟩

theorem zzsearch_ordered (b n : Nat) (nm : Nat → ByteArray) (od : Nat → Int) (g go : Nat) (q : ByteArray) (w : World) (hn : n ≤ 4096) (hp : Ordered w b n nm od g go) (hpl : ∀ i, i < n → plN (od i) < n)
    (hi : ∀ i j, i < n → j < n → plN (od i) = plN (od j) → i = j) (hasc : ∀ i, i + 1 < n → cmpB (nm (plN (od i))) (nm (plN (od (i + 1)))) < 0) :
    Calls Try.prog 9 #[.pointer (some ⟨b, 0, none⟩), .string q] w fun e w' => e = .returned (.tuple #[.int .i64 (lessN nm q n), .bool (hasN nm q n)]) ∧ Below w.heap.size w w' :=
  (zzsearch b q w _ n (search_ordered b n nm od g go q w hn hp hpl (search_mono (fun k => nm (plN (od k))) q n hasc))).mono fun e w' ⟨h1, h2⟩ => ⟨by
    rw [h1.law hasc, lessN_perm nm q n (fun k => plN (od k)) hpl hi, hasN_perm nm q n (fun k => plN (od k)) hpl hi], h2⟩

end Go.Proofs.Qxb6608767a
