import Derived.Test.Qxb6609005aB2
namespace Go.Proofs.Qxb6609005a
open Go.RowKit Go.WideMaps Go.Maps Go.Sort
set_option linter.unusedSimpArgs false
set_option linter.unusedVariables false
set_option linter.unusedSectionVars false

/-- what the map of backlogs says, as read -/
structure Says2 (L : List ByteArray) (Q : Nat → Nat) (Dm : DataW Unit) : Prop where
  atk : ∀ i (hi : i < L.length), Dm.atKey (.string L[i].data.toList) (.lit .nil) = .lit (.int .i64 (Q i)) ∧ Maps.has Dm (.string L[i].data.toList) = true
  no : ∀ s, s ∉ L → Maps.has Dm (.string s.data.toList) = false
  im : IsMap Dm
  nk : ∀ s, s ∉ L → Dm.atKey (.string s.data.toList) (.lit .nil) = .lit .nil

/-- the state at the head of the range over the backlogs -/
structure R2 (g : Log) (w W1 : World) (L : List ByteArray) (Q rb cp : Nat → Nat) (vS : Value) (Dm : DataW Unit) (dn : Nat → Bool) (D : Nat → Array Nat) (f : Nat → Option Value) (left : Lit → Bool) (cnt : Nat) (W : World) : Prop where
  rg : W.ranges Try.prog 9 ptrR w.heap.size (W1.heap.size + 1) L.length Dm left cnt
  lf : ∀ s (hs : s < L.length), left (.string L[s].data.toList) = !dn s
  hs : ∀ kl, left kl = true → Maps.has Dm kl = true
  p2 : ∃ cb nb pb ow, Ph2 g w W1 L Q rb cp vS dn D cb nb pb ow W
  mp : AMap W W1.heap.size g.pt (fun i => i < g.m) f
  pl : ∀ x, PlcJ L dn D #[] 0 x (f x)

theorem keyOf_str {x : ByteArray} {kl : Lit} (h : keyOf Try.prog 9 (.string x) = some kl) : kl = .string x.data.toList ∧ x.size ≤ maxLen := by
  simp [keyOf, Try.underlying9, mapKey] at h
  exact ⟨h.2.symm, h.1⟩

/-- an entry has come -/
theorem R2.come {g : Log} {w W1 W W' : World} {L : List ByteArray} {Q rb cp : Nat → Nat} {vS : Value} {Dm : DataW Unit} {dn : Nat → Bool} {D : Nat → Array Nat} {f : Nat → Option Value} {left : Lit → Bool} {cnt cnt' : Nat} (h : R2 g w W1 L Q rb cp vS Dm dn D f left cnt W) (P : Ph1 g w g.m L Q rb cp vS W1) (S : Says2 L Q Dm)
    {x : ByteArray} {c : Option Nat} {kl : Lit} {y : DataW Unit × List MemPlace} (hkey : keyOf Try.prog 9 (.string x) = some kl) (hlk : left kl = true) (hv : ptrR (.pointer (c.map fun q => ⟨q, 0, none⟩)) = some y) (hat : ∀ zd, Dm.atKey kl zd = y.1)
    (hrg : W'.ranges Try.prog 9 ptrR w.heap.size (W1.heap.size + 1) L.length Dm (fun z => left z && !z.sameKey kl) cnt') (hgr : W.grownBy W' (some (W1.heap.size + 1))) :
    ∃ (s : Nat) (hs : s < L.length), x = L[s] ∧ c = some (Q s) ∧ dn s = false ∧ (∀ t (ht : t < L.length), (left (.string L[t].data.toList) && !(Lit.string L[t].data.toList).sameKey kl) = !(if t = s then true else dn t)) ∧
      (∀ kl', (left kl' && !kl'.sameKey kl) = true → Maps.has Dm kl' = true) ∧ (∃ cb nb pb ow, Ph2 g w W1 L Q rb cp vS dn D cb nb pb ow W') ∧ AMap W' W1.heap.size g.pt (fun i => i < g.m) f := by
  obtain ⟨rfl, hx⟩ := keyOf_str hkey
  have hin : x ∈ L := by
    by_cases hin : x ∈ L
    · exact hin
    · have h1 := S.no x hin
      rw [h.hs _ hlk] at h1; cases h1
  obtain ⟨s, hs, e⟩ := List.mem_iff_getElem.1 hin
  subst e
  have hmb := P.map.lt
  refine ⟨s, hs, rfl, ?_, ?_, fun t ht => ?_, fun kl' hk => ?_, ?_, ?_⟩
  · have h1 := (S.atk s hs).1
    rw [hat] at h1
    have hv' : ptrR (.pointer (c.map fun q => ⟨q, 0, none⟩)) = some (.lit (.int .i64 (Q s)), y.2) := by rw [hv, ← h1]
    have h2 := ptrR_int hv'
    cases c with
    | none => simp at h2
    | some q => simp at h2; rw [h2]
  · have h1 := h.lf s hs
    rw [hlk] at h1
    cases hd : dn s with
    | false => rfl
    | true => rw [hd] at h1; cases h1
  · by_cases e : t = s
    · subst e
      simp [WideAt.sameKey_self (show WideAt.IsKeyLit (.string _) from trivial)]
    · have hne : (Lit.string L[t].data.toList).sameKey (.string L[s].data.toList) = false := by
        cases hsk : (Lit.string L[t].data.toList).sameKey (.string L[s].data.toList) with
        | false => rfl
        | true => exact absurd (nodup_inj P.nod ht hs (key_inj (WideAt.sameKey_eq hsk))) e
      rw [hne, h.lf t ht]; simp [e]
  · exact h.hs kl' (by cases hl : left kl' with
      | true => rfl
      | false => rw [hl] at hk; cases hk)
  · obtain ⟨cb, nb, pb, ow, p⟩ := h.p2
    exact ⟨cb, nb, pb, ow, p.keep P (Keep.of_grown hgr (fun k hk e => by injection e with e; exact .inr e.symm))⟩
  · exact h.mp.keep (hgr.block _ h.mp.lt (fun e => by injection e with e; omega))

/-- the state while the places of a sender's receives are laid -/
structure R3 (g : Log) (w W1 : World) (L : List ByteArray) (Q rb cp : Nat → Nat) (vS : Value) (Dm : DataW Unit) (dn : Nat → Bool) (D : Nat → Array Nat) (s : Nat) (Ds : Array Nat) (left : Lit → Bool) (cnt : Nat) (j : Nat) (W : World) : Prop where
  rg : W.ranges Try.prog 9 ptrR w.heap.size (W1.heap.size + 1) L.length Dm left cnt
  p2 : ∃ cb nb pb ow, Ph2 g w W1 L Q rb cp vS (fun t => if t = s then true else dn t) (fun t => if t = s then Ds else D t) cb nb pb ow W
  mp : ∃ f, AMap W W1.heap.size g.pt (fun i => i < g.m) f ∧ ∀ x, PlcJ L dn D Ds j x (f x)

/-- a backlog has been linked in the round -/
theorem R3.start {g : Log} {w W1 W W' : World} {L : List ByteArray} {Q rb cp : Nat → Nat} {vS : Value} {Dm : DataW Unit} {dn : Nat → Bool} {D : Nat → Array Nat} {f : Nat → Option Value} {left : Lit → Bool} {cnt : Nat} (P : Ph1 g w g.m L Q rb cp vS W1)
    (hrg : W.ranges Try.prog 9 ptrR w.heap.size (W1.heap.size + 1) L.length Dm left cnt) (p2 : ∃ cb nb pb ow, Ph2 g w W1 L Q rb cp vS dn D cb nb pb ow W) (mp : AMap W W1.heap.size g.pt (fun i => i < g.m) f) (pl : ∀ x, PlcJ L dn D #[] 0 x (f x))
    {s : Nat} (hs : s < L.length) (hd : dn s = false) (hk : Linked g W W' (Q s) (rb s) (rcv g g.m L[s]).length (cp s) (rcvA g L[s])) :
    ∃ Ds, R3 g w W1 L Q rb cp vS Dm dn D s Ds left cnt 0 W' ∧ Ord g L[s] Ds := by
  obtain ⟨cb, nb, pb, ow, p⟩ := p2
  obtain ⟨Ds, cs, ns, ps, q, hO, K⟩ := p.link P hs hd hk
  have hmb := P.map.lt
  have hq := (P.bq s hs).lt
  have hr : w.heap.size + 1 ≤ rb s ∧ rb s < W1.heap.size := (P.br s hs).lt _ rfl
  have hlo := P.lo s hs
  have hbig := p.big
  have b1 : W'.heap[w.heap.size]? = W.heap[w.heap.size]? := K.block _ (by omega) (fun e => by
    have e' : w.heap.size = Q s ∨ w.heap.size = rb s := e
    omega)
  have b2 : W'.heap[W1.heap.size + 1]? = W.heap[W1.heap.size + 1]? := K.block _ (by omega) (fun e => by
    have e' : W1.heap.size + 1 = Q s ∨ W1.heap.size + 1 = rb s := e
    omega)
  have b3 : W'.heap[W1.heap.size]? = W.heap[W1.heap.size]? := K.block _ (by omega) (fun e => by
    have e' : W1.heap.size = Q s ∨ W1.heap.size = rb s := e
    omega)
  refine ⟨Ds, ⟨ranges_keep hrg b1 b2, ⟨_, _, _, _, q⟩, f, mp.keep b3, fun x => ?_⟩, hO⟩
  rcases pl x with ⟨h1, h2, h3⟩ | h1 | ⟨i, h1, _⟩
  · exact .inl ⟨h1, h2, fun i hi => by omega⟩
  · exact .inr (.inl h1)
  · omega

/-- the store of a place -/
theorem R3.store {g : Log} {w W1 W : World} {L : List ByteArray} {Q rb cp : Nat → Nat} {vS : Value} {Dm : DataW Unit} {dn : Nat → Bool} {D : Nat → Array Nat} {s : Nat} {Ds : Array Nat} {left : Lit → Bool} {cnt j : Nat} (h : R3 g w W1 L Q rb cp vS Dm dn D s Ds left cnt j W) (P : Ph1 g w g.m L Q rb cp vS W1) (LB : LogAt w g) (hO : Ord g L[s]! Ds) (hj : j < Ds.size) :
    ∃ W', (Instr.mapUpdate 45 (.map (some W1.heap.size)) (.pointer (some ⟨g.E Ds[j]!, 0, none⟩)) (.int .i64 j)).run Try.prog W = .ok () W' ∧ R3 g w W1 L Q rb cp vS Dm dn D s Ds left cnt (j + 1) W' := by
  obtain ⟨cb, nb, pb, ow, p⟩ := h.p2
  obtain ⟨f, mp, pl⟩ := h.mp
  have hmb := P.map.lt
  have hbig := p.big
  obtain ⟨W', hr, mp', E⟩ := mp.store Try.underlying45 Try.underlying35 notnow_ptr (eqok_log (LB.below p.bel)) (checks_ptr g) (samebits_ptr g) (hO.at hj).1 (.int .i64 j)
  refine ⟨W', hr, ⟨ranges_keep h.rg (E.block _ (by omega) (by omega)) (E.block _ (by omega) (by omega)), ⟨cb, nb, pb, ow, p.keep P (Keep.of_else E (.inl rfl))⟩, _, mp', PlcJ.step pl⟩⟩

theorem R3.row {g : Log} {w W1 W : World} {L : List ByteArray} {Q rb cp : Nat → Nat} {vS : Value} {Dm : DataW Unit} {dn : Nat → Bool} {D : Nat → Array Nat} {s : Nat} {Ds : Array Nat} {left : Lit → Bool} {cnt j : Nat} (h : R3 g w W1 L Q rb cp vS Dm dn D s Ds left cnt j W) (hs : s < L.length) :
    W.cell? ⟨Q s, 0, none⟩ = some (.slice (some ⟨rb s, 0, none⟩) Ds.size (cp s)) ∧ ∀ i, i < Ds.size → W.cell? ⟨rb s, i, none⟩ = some (.pointer (some ⟨g.E Ds[i]!, 0, none⟩)) := by
  obtain ⟨cb, nb, pb, ow, p⟩ := h.p2
  obtain ⟨_, B, _⟩ := p.don s hs (by simp)
  simp only [if_true] at B
  exact ⟨B.oq.cell 0 (by omega), fun i hi => B.or.cell i hi⟩

theorem R3.done {g : Log} {w W1 W : World} {L : List ByteArray} {Q rb cp : Nat → Nat} {vS : Value} {Dm : DataW Unit} {dn : Nat → Bool} {D : Nat → Array Nat} {s : Nat} {Ds : Array Nat} {left : Lit → Bool} {cnt : Nat} (h : R3 g w W1 L Q rb cp vS Dm dn D s Ds left cnt Ds.size W) (hs : s < L.length) (hd : dn s = false)
    (hlf : ∀ t (ht : t < L.length), left (.string L[t].data.toList) = !(if t = s then true else dn t)) (hhs : ∀ kl, left kl = true → Maps.has Dm kl = true) :
    ∃ f, R2 g w W1 L Q rb cp vS Dm (fun t => if t = s then true else dn t) (fun t => if t = s then Ds else D t) f left cnt W := by
  obtain ⟨f, mp, pl⟩ := h.mp
  exact ⟨f, h.rg, hlf, hhs, h.p2, mp, PlcJ.next hs hd pl #[]⟩

end Go.Proofs.Qxb6609005a
