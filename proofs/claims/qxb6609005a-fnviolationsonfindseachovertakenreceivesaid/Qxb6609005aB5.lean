import Derived.Test.Qxb6609005aB4
namespace Go.Proofs.Qxb6609005a
open Go.RowKit Go.WideMaps Go.Maps Go.Sort
set_option linter.unusedSimpArgs false
set_option linter.unusedVariables false
set_option linter.unusedSectionVars false

/-- those of D that are still to come at event k -/
def alv (D : Array Nat) (k i : Nat) : Bool := decide (i < D.size) && decide (k ≤ D[i]!)

/-- what stands fast while the receives are gone through -/
structure Fix (g : Log) (w Wp : World) (pm : Nat) (L : List ByteArray) (Q rb : Nat → Nat) (vS : Value) (D : Nat → Array Nat) (cb nb pb : Nat → Nat) (f : Nat → Option Value) : Prop where
  ord : ∀ s (hs : s < L.length), Ord g L[s] (D s)
  nod : L.Nodup
  mem : ∀ s, s ∈ L ↔ ∃ i, i < g.m ∧ g.rv i = true ∧ g.ho i = s
  plc : ∀ s (hs : s < L.length) i, i < (D s).size → f (D s)[i]! = some (.int .i64 i)
  lt : ∀ s, s < L.length → Q s < Wp.heap.size ∧ rb s < Wp.heap.size ∧ cb s < Wp.heap.size ∧ nb s < Wp.heap.size ∧ pb s < Wp.heap.size
  lo : ∀ s, s < L.length → w.heap.size < Q s ∧ w.heap.size < nb s ∧ w.heap.size < pb s
  pm1 : pm < Wp.heap.size ∧ w.heap.size ≤ pm
  pm2 : ∀ s, s < L.length → pm ≠ Q s ∧ pm ≠ nb s ∧ pm ≠ pb s
  apart : ∀ s t, s < L.length → t < L.length → s ≠ t → ∀ b, (b = Q s ∨ b = nb s ∨ b = pb s) → b ≠ Q t ∧ b ≠ rb t ∧ b ≠ cb t ∧ b ≠ nb t ∧ b ≠ pb t
  sen : ∀ b, vS.ownBlock = some b → b < Wp.heap.size ∧ ∀ s, s < L.length → b ≠ Q s ∧ b ≠ nb s ∧ b ≠ pb s
  wp : w.heap.size < Wp.heap.size

structure Ph3 (g : Log) (w Wp : World) (pm : Nat) (L : List ByteArray) (Q rb cp : Nat → Nat) (vS : Value) (D : Nat → Array Nat) (cb nb pb : Nat → Nat) (f : Nat → Option Value) (k : Nat) (W : World) : Prop where
  bel : Below w.heap.size w W
  sz : Wp.heap.size ≤ W.heap.size
  map : PMap W w.heap.size L Q
  mp : AMap W pm g.pt (fun i => i < g.m) f
  sen : W.ownsRow (w.heap.size + 1) 9 1 vS L.length (L.map .string)
  bk : ∀ s, s < L.length → ∃ nx pv first, BkAt W (Q s) (rb s) (cb s) (nb s) (pb s) (D s).size (cp s) (fun i => g.pt (D s)[i]!) (fun i => g.own (D s)[i]!) nx pv first ∧ Links (D s).size (alv (D s) k) nx pv first

theorem IsNext.congr {n : Nat} {al al' : Nat → Bool} (h : ∀ j, j < n → al j = al' j) {a v : Int} (x : IsNext n al a v) : IsNext n al' a v := by
  rcases x with ⟨e, h1⟩ | ⟨j, e, h1, h2, h3, h4⟩
  · exact .inl ⟨e, fun j hj1 hj2 => by rw [← h j hj2]; exact h1 j hj1 hj2⟩
  · exact .inr ⟨j, e, h1, h2, by rw [← h j h2]; exact h3, fun t ht1 ht2 => by rw [← h t (by omega)]; exact h4 t ht1 ht2⟩
theorem IsPrev.congr {n : Nat} {al al' : Nat → Bool} (h : ∀ j, j < n → al j = al' j) {a v : Int} (ha : a ≤ n) (x : IsPrev al a v) : IsPrev al' a v := by
  rcases x with ⟨e, h1⟩ | ⟨j, e, h1, h2, h3⟩
  · exact .inl ⟨e, fun j hj => by rw [← h j (by omega)]; exact h1 j hj⟩
  · exact .inr ⟨j, e, h1, by rw [← h j (by omega)]; exact h2, fun t ht1 ht2 => by rw [← h t (by omega)]; exact h3 t ht1 ht2⟩
theorem Links.congr {n : Nat} {al al' : Nat → Bool} {nx pv : Nat → Int} {first : Int} (x : Links n al nx pv first) (h : ∀ j, j < n → al j = al' j) : Links n al' nx pv first :=
  ⟨x.first.congr h, fun i hi ha => (x.next i hi (by rw [h i hi]; exact ha)).congr h, fun i hi ha => (x.prev i hi (by rw [h i hi]; exact ha)).congr h (by omega)⟩

section
variable {g : Log} {w Wp W W' : World} {pm : Nat} {L : List ByteArray} {Q rb cp : Nat → Nat} {vS : Value} {D : Nat → Array Nat} {cb nb pb : Nat → Nat} {f : Nat → Option Value} {k : Nat}

/-- nothing below Wp's end has turned -/
theorem Ph3.keep (h : Ph3 g w Wp pm L Q rb cp vS D cb nb pb f k W) (X : Fix g w Wp pm L Q rb vS D cb nb pb f) {S : Nat → Prop} (K : Keep S W W') (hS : ∀ b, S b → Wp.heap.size ≤ b) : Ph3 g w Wp pm L Q rb cp vS D cb nb pb f k W' := by
  have hsz := h.sz
  have hwp := X.wp
  have fr : ∀ b, b < Wp.heap.size → W'.heap[b]? = W.heap[b]? := fun b hb => K.block b (by omega) (fun e => by have := hS b e; omega)
  refine ⟨K.below h.bel (fun b hb => by have := hS b hb; omega), Nat.le_trans h.sz K.size, h.map.keep (fr _ hwp), h.mp.keep (fr _ X.pm1.1), ownsRow_keep h.sen (fun b hb => fr b (X.sen b hb).1), fun s hs => ?_⟩
  obtain ⟨nx, pv, first, B, Lk⟩ := h.bk s hs
  obtain ⟨l1, l2, l3, l4, l5⟩ := X.lt s hs
  exact ⟨nx, pv, first, B.keep K ⟨fun e => by have := hS _ e; omega, fun e => by have := hS _ e; omega, fun e => by have := hS _ e; omega, fun e => by have := hS _ e; omega, fun e => by have := hS _ e; omega⟩, Lk⟩

theorem Ph3.grow (h : Ph3 g w Wp pm L Q rb cp vS D cb nb pb f k W) (X : Fix g w Wp pm L Q rb vS D cb nb pb f) (B : Below W.heap.size W W') : Ph3 g w Wp pm L Q rb cp vS D cb nb pb f k W' :=
  h.keep X (S := fun _ => False) (Keep.of_below B) (fun b hb => hb.elim)

/-- an event that is no receive -/
theorem Ph3.skip (h : Ph3 g w Wp pm L Q rb cp vS D cb nb pb f k W) (X : Fix g w Wp pm L Q rb vS D cb nb pb f) (hr : g.rv k = false) : Ph3 g w Wp pm L Q rb cp vS D cb nb pb f (k + 1) W :=
  ⟨h.bel, h.sz, h.map, h.mp, h.sen, fun s hs => by
    obtain ⟨nx, pv, first, B, Lk⟩ := h.bk s hs
    refine ⟨nx, pv, first, B, Lk.congr fun j hj => ?_⟩
    have hO := (X.ord s hs).at hj
    have hne : (D s)[j]! ≠ k := fun e => by rw [e, hr] at hO; cases hO.2.1
    simp only [alv, hj, decide_true, Bool.true_and]
    rw [decide_eq_decide]; omega⟩

theorem next_range {n : Nat} {al : Nat → Bool} {a v : Int} (h : IsNext n al a v) : -1 ≤ v ∧ v < n ∨ v = -1 := by
  rcases h with ⟨e, _⟩ | ⟨j, e, _, h2, _⟩
  · right; exact e
  · left; omega

/-- a receive leaves its backlog -/
theorem Ph3.take (h : Ph3 g w Wp pm L Q rb cp vS D cb nb pb f k W) (X : Fix g w Wp pm L Q rb vS D cb nb pb f) (hm : g.m ≤ 1024) (hk : k < g.m) (hr : g.rv k = true) {s : Nat} (hs : s < L.length) (e : L[s] = g.ho k) :
    ∃ i : Nat, f k = some (.int .i64 i) ∧ Calls Try.prog 36 #[.pointer (some ⟨Q s, 0, none⟩), .int .i64 i] W fun e w' => e = .returned (.tuple #[]) ∧ Ph3 g w Wp pm L Q rb cp vS D cb nb pb f (k + 1) w' ∧ Keep (fun b => b < Wp.heap.size) W w' := by
  have hO := X.ord s hs
  obtain ⟨i, hi, hDi⟩ := hO.idx hk hr e.symm
  obtain ⟨nx, pv, first, B, Lk⟩ := h.bk s hs
  have hsz : (D s).size ≤ g.m := by rw [hO.size]; exact rcv_len _ _ _
  have ha : alv (D s) k i = true := by unfold alv; rw [hDi]; simp [hi]
  have hN := Lk.next i hi ha
  have hP := Lk.prev i hi ha
  have hx : -1 ≤ nx i ∧ nx i < (D s).size := by rcases next_range hN with x | x <;> omega
  have hp : -1 ≤ pv i ∧ pv i < (D s).size := by
    rcases hP with ⟨e1, _⟩ | ⟨j, e1, h2, _⟩ <;> omega
  refine ⟨i, by rw [← hDi]; exact X.plc s hs i hi, (take_any (Q s) (rb s) (cb s) (nb s) (pb s) (D s).size (cp s) _ _ nx pv first i W B hi (by omega) hx hp).mono ?_⟩
  rintro e0 w' ⟨he, hB', K⟩
  refine ⟨he, ?_, K.mono (fun b hb => by
    have hb' : b = Q s ∨ b = nb s ∨ b = pb s := hb
    have := X.lt s hs
    omega)⟩
  have hlo := X.lo s hs
  have hpm := X.pm2 s hs
  have hlt := X.lt s hs
  have hsz' := h.sz
  have hwp := X.wp
  refine ⟨K.below h.bel (fun b hb => by
      have hb' : b = Q s ∨ b = nb s ∨ b = pb s := hb
      omega), Nat.le_trans h.sz K.size, h.map.keep (K.block _ (by omega) (fun x => by
      have hb' : w.heap.size = Q s ∨ w.heap.size = nb s ∨ w.heap.size = pb s := x
      omega)), h.mp.keep (K.block _ (by have := X.pm1; omega) (fun x => by
      have hb' : pm = Q s ∨ pm = nb s ∨ pm = pb s := x
      omega)), ownsRow_keep h.sen (fun b hb => K.block b (by have := (X.sen b hb).1; omega) (fun x => by
      have hb' : b = Q s ∨ b = nb s ∨ b = pb s := x
      have := (X.sen b hb).2 s hs
      omega)), fun t ht => ?_⟩
  by_cases et : t = s
  · subst et
    refine ⟨_, _, _, hB', (Lk.take hi ha).congr fun j hj => ?_⟩
    simp only [alv, hj, decide_true, Bool.true_and]
    by_cases ej : j = i
    · subst ej; rw [hDi]; simp
    · have hne : (D t)[j]! ≠ k := fun x => ej (hO.inj hj hi (by rw [x, hDi]))
      simp only [ej, decide_false, Bool.not_false, Bool.and_true]
      rw [decide_eq_decide]; omega
  · obtain ⟨nx', pv', first', B', Lk'⟩ := h.bk t ht
    have ap := X.apart s t hs ht (fun x => et x.symm)
    refine ⟨nx', pv', first', B'.keep K ⟨fun x => (ap _ x).1 rfl, fun x => (ap _ x).2.1 rfl, fun x => (ap _ x).2.2.1 rfl, fun x => (ap _ x).2.2.2.1 rfl, fun x => (ap _ x).2.2.2.2 rfl⟩, Lk'.congr fun j hj => ?_⟩
    have hO' := (X.ord t ht).at hj
    have hne : (D t)[j]! ≠ k := fun x => et (nodup_inj X.nod ht hs (by rw [← hO'.2.2, x, e]))
    simp only [alv, hj, decide_true, Bool.true_and]
    rw [decide_eq_decide]; omega

/-- the later receives of a sender that are counted at most c -/
def late (g : Log) (D : Array Nat) (k : Nat) (c : Int) : List Nat := D.toList.filter fun j => decide (k < j) && decide (g.own j ≤ c)

theorem late_eq (g : Log) (D : Array Nat) (k : Nat) (c : Int) : ((List.range D.size).filter fun i => alv D (k + 1) i && decide (g.own D[i]! ≤ c)).map (fun i => D[i]!) = late g D k c := by
  have e : D.toList = (List.range D.size).map fun i => D[i]! := by
    apply List.ext_getElem
    · simp
    · intro i h1 h2
      have hi : i < D.size := by simpa using h1
      simp [getElem!_pos D i hi]
  unfold late
  rw [e, List.filter_map]
  congr 1
  apply List.filter_congr
  intro i hi
  rw [List.mem_range] at hi
  simp only [alv, hi, decide_true, Bool.true_and, Function.comp]
  rw [show decide (k + 1 ≤ D[i]!) = decide (k < D[i]!) from by rw [decide_eq_decide]; omega]

theorem prs_map (r : Value) (g : Log) (D : Array Nat) (l : List Nat) : prs r (fun i => g.pt D[i]!) l = prs r g.pt (l.map fun i => D[i]!) := by
  simp [prs, List.flatMap_map]

/-- the receives of one sender that event k overtakes are found -/
theorem Ph3.over (h : Ph3 g w Wp pm L Q rb cp vS D cb nb pb f (k + 1) W) (X : Fix g w Wp pm L Q rb vS D cb nb pb f) (hm : g.m ≤ 1024) {t : Nat} (ht : t < L.length) (c : Int) {v : Value} {N : Nat} {xs : List Value} (F : Fnd W Wp.heap.size v N xs) (hN : N ≤ 4000000) :
    Calls Try.prog 37 #[.pointer (some ⟨Q t, 0, none⟩), g.pt k, .int .u64 c, v] W fun e w' => ∃ v', e = .returned v' ∧ Ph3 g w Wp pm L Q rb cp vS D cb nb pb f (k + 1) w' ∧ Fnd w' Wp.heap.size v' (N + (late g (D t) k c).length) (xs ++ prs (g.pt k) g.pt (late g (D t) k c)) ∧
      ((late g (D t) k c ≠ [] ∨ W.ownsRow Wp.heap.size 53 2 v N xs) → w'.ownsRow Wp.heap.size 53 2 v' (N + (late g (D t) k c).length) (xs ++ prs (g.pt k) g.pt (late g (D t) k c))) ∧ (late g (D t) k c = [] → v' = v) := by
  have hO := X.ord t ht
  obtain ⟨nx, pv, first, B, Lk⟩ := h.bk t ht
  have hsz : (D t).size ≤ g.m := by rw [hO.size]; exact rcv_len _ _ _
  obtain ⟨l1, l2, l3, l4, l5⟩ := X.lt t ht
  refine (overtaken_any (Q t) (rb t) (cb t) (nb t) (pb t) (D t).size (cp t) _ _ nx pv first (alv (D t) (k + 1)) Wp.heap.size v N xs (some ⟨g.E k, 0, none⟩) c W B Lk (fun i j hij hj => hO.sorted i j hij hj) (by omega) (by omega) (fun i hi => ⟨_, rfl⟩) F h.sz ⟨l1, l2, l3, l4, l5⟩).mono ?_
  rintro e w' ⟨v', he, hF, hK, _, hown, hsame⟩
  have e1 := late_eq g (D t) k c
  have e2 : ((List.range (D t).size).filter fun i => alv (D t) (k + 1) i && decide (g.own (D t)[i]! ≤ c)).length = (late g (D t) k c).length := by rw [← e1, List.length_map]
  rw [prs_map, e1, e2] at hF hown
  refine ⟨v', he, h.keep X hK (fun b hb => hb.2), hF, fun hx => hown ?_, fun hx => hsame (by rw [← e1] at hx; exact List.map_eq_nil_iff.1 hx)⟩
  rcases hx with hx | hx
  · left; intro hnil; apply hx; rw [← e1, hnil]; rfl
  · right; exact hx
end

end Go.Proofs.Qxb6609005a
