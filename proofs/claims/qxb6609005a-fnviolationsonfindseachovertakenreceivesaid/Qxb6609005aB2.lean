import Derived.Test.Qxb6609005aB1
namespace Go.Proofs.Qxb6609005a
open Go.RowKit Go.WideMaps Go.Maps Go.Sort
set_option linter.unusedSimpArgs false
set_option linter.unusedVariables false
set_option linter.unusedSectionVars false

/-! pointers to events as keys -/
theorem eqok_log {W : World} {g : Log} (h : LogAt W g) : EqOk Try.prog 35 g.pt (fun i => i < g.m) W := by
  have hte : Try.prog.info? 75 = some Try.t75 := by kernel_rfl
  have hs75 : Try.t75.size = 13 := by kernel_rfl
  have hsz : Try.t75.size ≠ 0 := by rw [hs75]; decide
  refine ⟨fun x hx => ?_, fun x y hx hy hne => ?_, fun x y hx hy e => ?_⟩
  · have hh : ∀ d : Nat, (Op.equalIn (d + 1) 35 (g.pt x) (g.pt x)).run Try.prog W = .ok true W := fun d => by
      simp [Op.equalIn, Log.pt, run_underlying Try.underlying35, sizeOf, typeInfo, hte, run_sameAddr_same]
    simp [Op.equal, Op.maxDepth, hh 9999]
  · obtain ⟨ca, ha, _⟩ := h.whole x hx
    obtain ⟨cb, hb, _⟩ := h.whole y hy
    have hab : (⟨g.E x, 0, none⟩ : Addr) ≠ ⟨g.E y, 0, none⟩ := fun e => hne (h.inj x y hx hy (by injection e))
    have hh : ∀ d : Nat, (Op.equalIn (d + 1) 35 (g.pt x) (g.pt y)).run Try.prog W = .ok false W := fun d => by
      simp [Op.equalIn, Log.pt, run_underlying Try.underlying35, sizeOf, typeInfo, hte, hsz, run_sameAddr_other W hab ha hb]
    simp [Op.equal, Op.maxDepth, hh 9999]
  · simp [Log.pt] at e
    exact h.inj x y hx hy e
theorem notnow_ptr : NotNow (.pointer 75) := fun a b => by cases a <;> cases b <;> rfl
theorem checks_ptr (g : Log) : Checks Try.prog 35 g.pt (fun i => i < g.m) := fun x _ b w => by
  have hh : ∀ n, (Instr.checkKey b (n + 1) 35 (g.pt x)).run Try.prog w = .ok () w := fun n => by
    simp [Instr.checkKey, Log.pt, run_underlying Try.underlying35]
  exact hh 9999
theorem samebits_ptr (g : Log) : ∀ x, x < g.m → Instr.sameBits 10000 (g.pt x) (g.pt x) = true := fun x _ => by
  have hh : ∀ n, Instr.sameBits n (g.pt x) (g.pt x) = true := fun n => by cases n <;> simp [Instr.sameBits, Log.pt]
  exact hh 10000
theorem zero3 (w : World) : (zeroValue 3).run Try.prog w = .ok (.int .i64 0) w := by kernel_rfl

theorem ranges_keep {w W : World} {b r n : Nat} {D : DataW Unit} {left : Lit → Bool} {cnt : Nat} (h : w.ranges Try.prog 9 ptrR b r n D left cnt) (hb : W.heap[b]? = w.heap[b]?) (hr : W.heap[r]? = w.heap[r]?) : W.ranges Try.prog 9 ptrR b r n D left cnt := by
  obtain ⟨es, clock, since, seen, c0, h1, F, hs, hD, h2, rest⟩ := h
  exact ⟨es, clock, since, seen, c0, by rw [hb]; exact h1, F, hs, hD, by rw [hr]; exact h2, rest⟩

/-- the receives of a sender, as an array -/
def rcvA (g : Log) (s : ByteArray) : Array Nat := (rcv g g.m s).toArray

/-- what is known of a sender's order -/
structure Ord (g : Log) (s : ByteArray) (D : Array Nat) : Prop where
  perm : D.toList.Perm (rcv g g.m s)
  sorted : ∀ i j, i < j → j < D.size → g.own D[i]! ≤ g.own D[j]!

theorem mem_rcv {g : Log} {k : Nat} {s : ByteArray} {i : Nat} : i ∈ rcv g k s ↔ i < k ∧ g.rv i = true ∧ g.ho i = s := by
  simp [rcv, List.mem_filter, List.mem_range]
theorem rcv_nodup (g : Log) (k : Nat) (s : ByteArray) : (rcv g k s).Nodup := (List.nodup_range).filter _

theorem Ord.size {g : Log} {s : ByteArray} {D : Array Nat} (h : Ord g s D) : D.size = (rcv g g.m s).length := by
  have := h.perm.length_eq; simpa using this
theorem Ord.at {g : Log} {s : ByteArray} {D : Array Nat} (h : Ord g s D) {i : Nat} (hi : i < D.size) : D[i]! < g.m ∧ g.rv D[i]! = true ∧ g.ho D[i]! = s := by
  have : D[i]! ∈ D.toList := by rw [getElem!_pos D i hi]; simp
  exact mem_rcv.1 (h.perm.mem_iff.1 this)
theorem Ord.inj {g : Log} {s : ByteArray} {D : Array Nat} (h : Ord g s D) {i j : Nat} (hi : i < D.size) (hj : j < D.size) (e : D[i]! = D[j]!) : i = j := by
  have hn : D.toList.Nodup := h.perm.nodup_iff.2 (rcv_nodup g g.m s)
  rw [getElem!_pos D i hi, getElem!_pos D j hj] at e
  exact nodup_inj hn (by simpa using hi) (by simpa using hj) (by simpa using e)
theorem Ord.idx {g : Log} {s : ByteArray} {D : Array Nat} (h : Ord g s D) {k : Nat} (hk : k < g.m) (hr : g.rv k = true) (hs : g.ho k = s) : ∃ i, i < D.size ∧ D[i]! = k := by
  have : k ∈ D.toList := h.perm.mem_iff.2 (mem_rcv.2 ⟨hk, hr, hs⟩)
  obtain ⟨i, hi, e⟩ := List.mem_iff_getElem.1 this
  have hi' : i < D.size := by simpa using hi
  exact ⟨i, hi', by rw [getElem!_pos D i hi']; simpa using e⟩

theorem ord_of_sort {g : Log} {s : ByteArray} {D : Array Nat} {n : Nat} (hn : n = (rcv g g.m s).length) (h1 : Sort.PermIn 0 n (rcvA g s) D) (h2 : Sort.SortedIn g.lt 0 n D) (h3 : D.size = n) : Ord g s D := by
  refine ⟨?_, fun i j hij hj => ?_⟩
  · have hp := h1.2.2
    have e1 : (rcvA g s).extract 0 n = rcvA g s := by rw [hn]; simp [rcvA]
    have e2 : D.extract 0 n = D := by rw [← h3]; simp
    rw [e1, e2] at hp
    simpa [rcvA] using hp
  · have := h2 i j (Nat.zero_le _) hij (by omega)
    simp [Log.lt] at this
    omega

/-- the state while the backlogs are linked -/
structure Ph2 (g : Log) (w W1 : World) (L : List ByteArray) (Q rb cp : Nat → Nat) (vS : Value) (dn : Nat → Bool) (D : Nat → Array Nat) (cb nb pb ow : Nat → Nat) (W : World) : Prop where
  bel : Below w.heap.size w W
  big : W1.heap.size + 2 ≤ W.heap.size
  sen : W.ownsRow (w.heap.size + 1) 9 1 vS L.length (L.map .string)
  und : ∀ s (h : s < L.length), dn s = false → Own W (Q s) 5 (bk0 (rb s) (rcv g g.m L[s]).length (cp s)) ∧ Own W (rb s) (rcv g g.m L[s]).length (fun i => g.pt (rcvA g L[s])[i]!)
  don : ∀ s (h : s < L.length), dn s = true → Ord g L[s] (D s) ∧ BkAt W (Q s) (rb s) (cb s) (nb s) (pb s) (D s).size (cp s) (fun i => g.pt (D s)[i]!) (fun i => g.own (D s)[i]!) (fun i => if i + 1 = (D s).size then -1 else (i : Int) + 1) (fun i => (i : Int) - 1) 0 ∧
    ow (cb s) = s ∧ ow (nb s) = s ∧ ow (pb s) = s ∧ W1.heap.size + 2 ≤ cb s ∧ W1.heap.size + 2 ≤ nb s ∧ W1.heap.size + 2 ≤ pb s

theorem rcvA_get {g : Log} {s : ByteArray} {i : Nat} (hi : i < (rcv g g.m s).length) : (rcvA g s)[i]! = (rcv g g.m s)[i] := by
  rw [getElem!_pos _ _ (by simpa [rcvA] using hi)]; simp [rcvA]
theorem rcvA_ok {g : Log} {s : ByteArray} {i : Nat} (hi : i < (rcv g g.m s).length) : (rcvA g s)[i]! < g.m ∧ g.rv (rcvA g s)[i]! = true := by
  rw [rcvA_get hi]
  have := mem_rcv.1 (List.getElem_mem hi)
  exact ⟨this.1, this.2.1⟩

theorem own_of_row {W : World} {base : Nat} {e : TypeId} {b n cap : Nat} {xs : List Value} {f : Nat → Value} (h : W.ownsRow base e 1 (.slice (some ⟨b, 0, none⟩) n cap) n xs) (hf : ∀ i, i < n → xs[i]? = some (f i)) : Own W b n f :=
  ⟨(h.lt b rfl).2, fun i hi => by rw [h.cellAt i (by omega)]; exact hf i hi, fun i => h.frozenAt i⟩

section
variable {g : Log} {w W1 W W' : World} {L : List ByteArray} {Q rb cp : Nat → Nat} {vS : Value} {dn : Nat → Bool} {D : Nat → Array Nat} {cb nb pb ow : Nat → Nat}

theorem Ph2.start (P : Ph1 g w g.m L Q rb cp vS W1) (hB : Below W1.heap.size W1 W) (hs : W1.heap.size + 2 ≤ W.heap.size) : Ph2 g w W1 L Q rb cp vS (fun _ => false) D cb nb pb ow W := by
  refine ⟨P.bel.trans (hB.mono P.bel.size), hs, ownsRow_keep P.sen (fun b hb => hB.block b (P.sen.lt b hb).2), fun s h _ => ⟨(P.bq s h).below hB (P.bq s h).lt, ?_⟩, fun s h hd => by cases hd⟩
  have o : Own W1 (rb s) (rcv g g.m L[s]).length (fun i => g.pt (rcvA g L[s])[i]!) := own_of_row (P.br s h) (fun i hi => by rw [rcvA_get hi]; simp [hi])
  exact o.below hB o.lt

/-- stores into the place map or the iterator -/
theorem Ph2.keep (h : Ph2 g w W1 L Q rb cp vS dn D cb nb pb ow W) (P : Ph1 g w g.m L Q rb cp vS W1) (k : Keep (fun b => b = W1.heap.size ∨ b = W1.heap.size + 1) W W') : Ph2 g w W1 L Q rb cp vS dn D cb nb pb ow W' := by
  have hw := P.bel.size
  have hq : ∀ s (hs : s < L.length), Q s < W1.heap.size := fun s hs => (P.bq s hs).lt
  have hr : ∀ s (hs : s < L.length), rb s < W1.heap.size := fun s hs => ((P.br s hs).lt _ rfl).2
  refine ⟨k.below h.bel (fun b hb => by rcases hb with rfl | rfl <;> omega), Nat.le_trans h.big k.size, ownsRow_keep h.sen (fun b hb => k.block b (h.sen.lt b hb).2 (fun e => by have := (P.sen.lt b hb).2; rcases e with rfl | rfl <;> omega)), fun s hs hd => ?_, fun s hs hd => ?_⟩
  · obtain ⟨o1, o2⟩ := h.und s hs hd
    exact ⟨k.own o1 (fun e => by have := hq s hs; rcases e with e | e <;> omega), k.own o2 (fun e => by have := hr s hs; rcases e with e | e <;> omega)⟩
  · obtain ⟨h1, h2, h3, h4, h5, h6, h7, h8⟩ := h.don s hs hd
    refine ⟨h1, h2.keep k ⟨fun e => ?_, fun e => ?_, fun e => ?_, fun e => ?_, fun e => ?_⟩, h3, h4, h5, h6, h7, h8⟩
    · have := hq s hs; rcases e with e | e <;> omega
    · have := hr s hs; rcases e with e | e <;> omega
    · rcases e with e | e <;> omega
    · rcases e with e | e <;> omega
    · rcases e with e | e <;> omega

/-- a backlog is linked -/
theorem Ph2.link (h : Ph2 g w W1 L Q rb cp vS dn D cb nb pb ow W) (P : Ph1 g w g.m L Q rb cp vS W1) {s : Nat} (hs : s < L.length) (hd : dn s = false) (hk : Linked g W W' (Q s) (rb s) (rcv g g.m L[s]).length (cp s) (rcvA g L[s])) :
    ∃ Ds cs ns ps, Ph2 g w W1 L Q rb cp vS (fun t => if t = s then true else dn t) (fun t => if t = s then Ds else D t) (fun t => if t = s then cs else cb t) (fun t => if t = s then ns else nb t) (fun t => if t = s then ps else pb t) (fun b => if W.heap.size ≤ b then s else ow b) W' ∧ Ord g L[s] Ds ∧ Keep (fun b => b = Q s ∨ b = rb s) W W' := by
  obtain ⟨Ds, cs, ns, ps, B, K, h1, h2, h3, hp, hso, hsz⟩ := hk
  have hO : Ord g L[s] Ds := ord_of_sort rfl hp hso hsz
  have hw := P.bel.size
  have hq : ∀ t (ht : t < L.length), Q t < W1.heap.size := fun t ht => (P.bq t ht).lt
  have hr : ∀ t (ht : t < L.length), w.heap.size + 1 ≤ rb t ∧ rb t < W1.heap.size := fun t ht => (P.br t ht).lt _ rfl
  have hbig := h.big
  have hKb : ∀ b, (b = Q s ∨ b = rb s) → w.heap.size ≤ b := fun b hb => by
    have h5 := P.lo s hs
    have h6 := (hr s hs).1
    rcases hb with e | e <;> omega
  refine ⟨Ds, cs, ns, ps, ⟨K.below h.bel hKb, Nat.le_trans h.big K.size, ownsRow_keep h.sen (fun b hb => K.block b (h.sen.lt b hb).2 (fun e => by have := P.sq s b hs hb; rcases e with e | e <;> omega)), fun t ht hdt => ?_, fun t ht hdt => ?_⟩, hO, K⟩
  · have e : t ≠ s := fun e => by simp [e] at hdt
    simp only [e, if_false] at hdt
    obtain ⟨o1, o2⟩ := h.und t ht hdt
    refine ⟨K.own o1 (fun x => ?_), K.own o2 (fun x => ?_)⟩
    · rcases x with x | x
      · exact e (P.qq t s ht hs x)
      · exact P.qr t s ht hs x
    · rcases x with x | x
      · exact P.qr s t hs ht x.symm
      · exact e (P.rr t s ht hs x)
  · by_cases e : t = s
    · subst e
      simp only [if_true]
      rw [hsz]
      exact ⟨hO, B, by rw [if_pos h1], by rw [if_pos h2], by rw [if_pos h3], by omega, by omega, by omega⟩
    · simp only [e, if_false] at hdt ⊢
      obtain ⟨g1, g2, g3, g4, g5, g6, g7, g8⟩ := h.don t ht hdt
      have l1 := g2.oc.lt
      have l2 := g2.ox.lt
      have l3 := g2.op.lt
      have a1 := hq s hs
      have a2 := (hr s hs).2
      refine ⟨g1, g2.keep K ⟨fun x => ?_, fun x => ?_, fun x => ?_, fun x => ?_, fun x => ?_⟩, by rw [if_neg (by omega)]; exact g3, by rw [if_neg (by omega)]; exact g4, by rw [if_neg (by omega)]; exact g5, g6, g7, g8⟩
      · rcases x with x | x
        · exact e (P.qq t s ht hs x)
        · exact P.qr t s ht hs x
      · rcases x with x | x
        · exact P.qr s t hs ht x.symm
        · exact e (P.rr t s ht hs x)
      · rcases x with x | x <;> omega
      · rcases x with x | x <;> omega
      · rcases x with x | x <;> omega
end

/-- the place of receive x: told by the senders that are done, and by the first j of D -/
def PlcJ (L : List ByteArray) (dn : Nat → Bool) (D : Nat → Array Nat) (Ds : Array Nat) (j x : Nat) (v : Option Value) : Prop :=
  (v = none ∧ (∀ s, s < L.length → dn s = true → ∀ i, i < (D s).size → (D s)[i]! ≠ x) ∧ ∀ i, i < j → Ds[i]! ≠ x) ∨
  (∃ s i, s < L.length ∧ dn s = true ∧ i < (D s).size ∧ (D s)[i]! = x ∧ v = some (.int .i64 i)) ∨ ∃ i, i < j ∧ Ds[i]! = x ∧ v = some (.int .i64 i)

theorem PlcJ.step {L : List ByteArray} {dn : Nat → Bool} {D : Nat → Array Nat} {Ds : Array Nat} {j : Nat} {f : Nat → Option Value} (h : ∀ x, PlcJ L dn D Ds j x (f x)) : ∀ x, PlcJ L dn D Ds (j + 1) x (if x = Ds[j]! then some (.int .i64 j) else f x) := fun x => by
  by_cases e : x = Ds[j]!
  · rw [if_pos e]; exact .inr (.inr ⟨j, by omega, e.symm, rfl⟩)
  · rw [if_neg e]
    rcases h x with ⟨h1, h2, h3⟩ | h1 | ⟨i, h1, h2, h3⟩
    · exact .inl ⟨h1, h2, fun i hi => by
        by_cases ei : i = j
        · subst ei; exact fun y => e y.symm
        · exact h3 i (by omega)⟩
    · exact .inr (.inl h1)
    · exact .inr (.inr ⟨i, by omega, h2, h3⟩)

theorem PlcJ.next {L : List ByteArray} {dn : Nat → Bool} {D : Nat → Array Nat} {Ds : Array Nat} {f : Nat → Option Value} {s : Nat} (hs : s < L.length) (hd : dn s = false) (h : ∀ x, PlcJ L dn D Ds Ds.size x (f x)) :
    ∀ Dn x, PlcJ L (fun t => if t = s then true else dn t) (fun t => if t = s then Ds else D t) Dn 0 x (f x) := fun Dn x => by
  rcases h x with ⟨h1, h2, h3⟩ | ⟨t, i, h1, h2, h3, h4, h5⟩ | ⟨i, h1, h2, h3⟩
  · refine .inl ⟨h1, fun t ht hdt i hi => ?_, fun i hi => by omega⟩
    by_cases e : t = s
    · subst e; simp only [if_true] at hi ⊢; exact h3 i hi
    · simp only [e, if_false] at hdt hi ⊢; exact h2 t ht hdt i hi
  · have e : t ≠ s := fun e => by rw [e, hd] at h2; cases h2
    exact .inr (.inl ⟨t, i, h1, by simp [e, h2], by simpa [e] using h3, by simpa [e] using h4, h5⟩)
  · exact .inr (.inl ⟨s, i, hs, by simp, by simpa using h1, by simpa using h2, h3⟩)

theorem PlcJ.start (L : List ByteArray) (D : Nat → Array Nat) (Ds : Array Nat) : ∀ x, PlcJ L (fun _ => false) D Ds 0 x none := fun x => .inl ⟨rfl, (fun s _ h => Bool.noConfusion h), (fun i h => absurd h (Nat.not_lt_zero i))⟩

end Go.Proofs.Qxb6609005a
