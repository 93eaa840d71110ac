import Derived.Test.Qxb6609005aB5
namespace Go.Proofs.Qxb6609005a
open Go.RowKit Go.WideMaps Go.Maps Go.Sort
set_option linter.unusedSimpArgs false
set_option linter.unusedVariables false
set_option linter.unusedSectionVars false

/-- all backlogs are linked -/
theorem ph3_start {g : Log} {w W1 Wp : World} {L : List ByteArray} {Q rb cp : Nat → Nat} {vS : Value} {Dm : DataW Unit} {dn : Nat → Bool} {D : Nat → Array Nat} {f : Nat → Option Value} {left : Lit → Bool} {cnt : Nat} (P : Ph1 g w g.m L Q rb cp vS W1) (S : Says2 L Q Dm) (R : R2 g w W1 L Q rb cp vS Dm dn D f left cnt Wp) (hl : ∀ kl, left kl = false) :
    ∃ cb nb pb, Fix g w Wp W1.heap.size L Q rb vS D cb nb pb f ∧ Ph3 g w Wp W1.heap.size L Q rb cp vS D cb nb pb f 0 Wp := by
  have hdn : ∀ s, s < L.length → dn s = true := fun s hs => by
    have := R.lf s hs
    rw [hl] at this
    cases h : dn s with
    | true => rfl
    | false => rw [h] at this; cases this
  obtain ⟨cb, nb, pb, ow, p⟩ := R.p2
  have hw := P.bel.size
  have hmb := P.map.lt
  have hbig := p.big
  have hq : ∀ s (hs : s < L.length), Q s < W1.heap.size := fun s hs => (P.bq s hs).lt
  have hr : ∀ s (hs : s < L.length), w.heap.size + 1 ≤ rb s ∧ rb s < W1.heap.size := fun s hs => (P.br s hs).lt _ rfl
  have hord : ∀ s (hs : s < L.length), Ord g L[s] (D s) := fun s hs => (p.don s hs (hdn s hs)).1
  refine ⟨cb, nb, pb, ⟨hord, P.nod, P.mem, fun s hs i hi => ?_, fun s hs => ?_, fun s hs => ?_, ⟨by omega, by omega⟩, fun s hs => ?_, fun s t hs ht hne b hb => ?_, fun b hb => ?_, by omega⟩, ⟨p.bel, Nat.le_refl _, ⟨Dm, R.rg.owns, S.im, S.atk, fun s hs => ⟨S.nk s hs, S.no s hs⟩⟩, R.mp, p.sen, fun s hs => ?_⟩⟩
  · rcases R.pl (D s)[i]! with ⟨_, h2, _⟩ | ⟨t, i', ht, _, hi', e, hv⟩ | ⟨i', h1, _⟩
    · exact absurd rfl (h2 s hs (hdn s hs) i hi)
    · have a1 := (hord t ht).at hi'
      have a2 := (hord s hs).at hi
      have et : t = s := nodup_inj P.nod ht hs (by rw [← a1.2.2, ← a2.2.2, e])
      subst et
      rw [hv, (hord t ht).inj hi' hi e]
    · omega
  · obtain ⟨_, B, _⟩ := p.don s hs (hdn s hs)
    exact ⟨B.oq.lt, B.or.lt, B.oc.lt, B.ox.lt, B.op.lt⟩
  · obtain ⟨_, B, _, _, _, h6, h7, h8⟩ := p.don s hs (hdn s hs)
    exact ⟨P.lo s hs, by omega, by omega⟩
  · obtain ⟨_, B, _, _, _, h6, h7, h8⟩ := p.don s hs (hdn s hs)
    have := hq s hs
    exact ⟨by omega, by omega, by omega⟩
  · obtain ⟨_, B, o1, o2, o3, h6, h7, h8⟩ := p.don s hs (hdn s hs)
    obtain ⟨_, B', o1', o2', o3', h6', h7', h8'⟩ := p.don t ht (hdn t ht)
    have a1 := hq s hs
    have a2 := hq t ht
    have a3 := (hr t ht).2
    have a4 : Q s ≠ Q t := fun x => hne (P.qq s t hs ht x)
    have a5 := P.qr s t hs ht
    rcases hb with rfl | rfl | rfl
    · exact ⟨a4, a5, by omega, by omega, by omega⟩
    · exact ⟨by omega, by omega, fun x => hne (by rw [← o2, x, o1']), fun x => hne (by rw [← o2, x, o2']), fun x => hne (by rw [← o2, x, o3'])⟩
    · exact ⟨by omega, by omega, fun x => hne (by rw [← o3, x, o1']), fun x => hne (by rw [← o3, x, o2']), fun x => hne (by rw [← o3, x, o3'])⟩
  · have h1 := (P.sen.lt b hb).2
    refine ⟨by omega, fun s hs => ?_⟩
    obtain ⟨_, B, _, _, _, h6, h7, h8⟩ := p.don s hs (hdn s hs)
    have := (P.sq s b hs hb).1
    exact ⟨this, by omega, by omega⟩
  · obtain ⟨hO, B, _⟩ := p.don s hs (hdn s hs)
    have h1 : 1 ≤ (D s).size := by
      rw [hO.size]
      obtain ⟨i, hi, hri, hoi⟩ := (P.mem L[s]).1 (List.getElem_mem hs)
      exact List.length_pos_of_mem (mem_rcv.2 ⟨hi, hri, hoi⟩)
    exact ⟨_, _, _, B, (Links.start (D s).size h1).congr fun j hj => by simp [alv, hj]⟩

/-! the pairs' cells -/
theorem prs_len (r : Value) (E : Nat → Value) (l : List Nat) : (prs r E l).length = l.length * 2 := by
  induction l with
  | nil => rfl
  | cons a l ih => simp only [prs, List.flatMap_cons, List.length_append] at ih ⊢; simp only [List.length_cons, List.length_nil]; omega
theorem prs_get (r : Value) (E : Nat → Value) : ∀ (l : List Nat) (t : Nat), t < l.length * 2 → (prs r E l)[t]? = some (if t % 2 = 0 then r else E l[t / 2]!)
  | [], t, h => by simp at h
  | a :: l, t, h => by
    match t with
    | 0 => simp [prs]
    | 1 => simp [prs]
    | t + 2 =>
      have ih := prs_get r E l t (by simp at h; omega)
      have e : (prs r E (a :: l))[t + 2]? = (prs r E l)[t]? := by simp [prs]
      rw [e, ih, show (t + 2) % 2 = t % 2 by omega, show (t + 2) / 2 = t / 2 + 1 by omega]
      simp

theorem prow_get (g : Log) (xs : List Value) (M x : Nat) (d : Array Nat) (hxs : xs.length = M * 2) (t : Nat) (ht : t < (M + d.size) * 2) : (xs ++ prs (g.pt x) g.pt d.toList)[t]? = some (prow g (fun i => xs[i]!) M x d t) := by
  unfold prow
  by_cases h1 : t < M * 2
  · rw [if_pos h1, List.getElem?_append_left (by omega)]
    rw [List.getElem?_eq_getElem (by omega)]
    show some xs[t] = some xs[t]!
    rw [getElem!_pos xs t (by omega)]
  · rw [if_neg h1, List.getElem?_append_right (by omega), hxs, prs_get _ _ _ _ (by simp; omega)]
    have hi : (t - M * 2) / 2 < d.size := by omega
    congr 1
    by_cases h2 : (t - M * 2) % 2 = 0
    · rw [if_pos h2, if_pos h2]
    · rw [if_neg h2, if_neg h2]
      congr 1
      rw [getElem!_pos d _ hi, getElem!_pos d.toList _ (by simpa using hi)]
      simp

/-- a list in the order of the sends -/
def KeySorted (g : Log) (l : List Nat) : Prop := ∀ i j, i < j → j < l.length → g.key l[j]! l[i]! = false

/-- what the sort of the pairs of event k leaves -/
def Sorted3 (g : Log) (base : Nat) (v : Value) (N k : Nat) (xs : List Value) (acc : List Nat) (w' : World) (Ph : World → Prop) : Prop :=
  ∃ G : List Nat, G.Perm acc ∧ KeySorted g G ∧ w'.ownsRow base 53 2 v (N + acc.length) (xs ++ prs (g.pt k) g.pt G) ∧ Ph w'

theorem sort_big {g : Log} {w Wp W : World} {pm : Nat} {L : List ByteArray} {Q rb cp : Nat → Nat} {vS : Value} {D : Nat → Array Nat} {cb nb pb : Nat → Nat} {f : Nat → Option Value} {k j : Nat} (h : Ph3 g w Wp pm L Q rb cp vS D cb nb pb f j W) (X : Fix g w Wp pm L Q rb vS D cb nb pb f) (LB : LogAt w g)
    {v : Value} {N : Nat} {xs : List Value} {acc : List Nat} (ho : W.ownsRow Wp.heap.size 53 2 v (N + acc.length) (xs ++ prs (g.pt k) g.pt acc)) (hxs : xs.length = N * 2) (h2 : 2 ≤ acc.length) (hle : acc.length ≤ 1024) (hacc : ∀ x ∈ acc, x < g.m ∧ g.rv x = true) :
    ∃ fb cap, v = .slice (some ⟨fb, 0, none⟩) (N + acc.length) cap ∧ N + acc.length ≤ cap ∧
      Calls Try.prog 38 #[.iface 48 (.slice (some ⟨fb, N * 2, none⟩) acc.length (cap - N)), .func (.func 39) #[] #[.pointer (some ⟨W.heap.size, 0, none⟩)]] (W.alloc (.cells #[.slice (some ⟨fb, N * 2, none⟩) acc.length (cap - N)] 48)) fun e w' => e = .returned (.tuple #[]) ∧
        Sorted3 g Wp.heap.size v N k xs acc w' (Ph3 g w Wp pm L Q rb cp vS D cb nb pb f j) := by
  have ho2 := ho.2
  rcases ho2 with ⟨_, hn⟩ | ⟨fb, cap, cur, rfl, hfb, hcur, hcap, hmax, hcs, htake⟩
  · omega
  refine ⟨fb, cap, rfl, hcap, ?_⟩
  obtain ⟨W0, hW0⟩ : ∃ W0, W0 = W.alloc (.cells #[.slice (some ⟨fb, N * 2, none⟩) acc.length (cap - N)] 48) := ⟨_, rfl⟩
  have hB0 : Below W.heap.size W W0 := by rw [hW0]; exact below_alloc W _
  have hc0 : W0.cell? ⟨W.heap.size, 0, none⟩ = some (.slice (some ⟨fb, N * 2, none⟩) acc.length (cap - N)) := by rw [hW0]; simp
  have hs0 : W0.heap.size = W.heap.size + 1 := by rw [hW0]; simp
  have hfl : fb < W.heap.size := (Array.getElem?_eq_some_iff.1 hcur).1
  have hsz := h.sz
  have hwp := X.wp
  rw [← hW0]
  have hI : PairInv g W0 fb (cap * 2) (fun i => xs[i]!) N k acc.length W0 acc.toArray := by
    refine ⟨Else.refl _ _, by simp, ⟨by omega, fun t ht => ?_, fun t => ?_⟩, fun i hi => ?_, by omega, ⟨cur, by rw [hB0.block fb hfl]; exact hcur, hcs⟩⟩
    · rw [hB0.cell hfl, ho.cellAt t (by omega)]
      have := prow_get g xs N k acc.toArray hxs t (by simpa using ht)
      simpa using this
    · rw [hB0.frozen hfl]; exact ho.frozenAt t
    · rw [getElem!_pos _ _ (by simpa using hi)]
      exact hacc _ (by simp)
  refine (pairs_sort g w W0 W.heap.size fb (cap * 2) acc.length (cap - N) N k (fun i => xs[i]!) acc.toArray LB (h.bel.trans (hB0.mono h.bel.size)) (by omega) h2 (by omega) hc0 (by omega) hI).mono ?_
  rintro e w' ⟨he, D', I', hp, hso⟩
  refine ⟨he, D'.toList, ?_, fun i j hij hj => ?_, ?_, ?_⟩
  · have hp2 := hp.2.2
    have e1 : acc.toArray.extract 0 acc.length = acc.toArray := by simp
    have e2 : D'.extract 0 acc.length = D' := by rw [← I'.size]; simp
    rw [e1, e2] at hp2
    simpa using hp2
  · have hj' : j < D'.size := by simpa using hj
    have := hso i j (Nat.zero_le _) hij (by rw [← I'.size]; exact hj')
    rw [getElem!_pos D' j hj', getElem!_pos D' i (by omega)] at this
    rw [getElem!_pos D'.toList j hj, getElem!_pos D'.toList i (by omega)]
    simpa using this
  · obtain ⟨cur', hc1, hc2⟩ := I'.blk
    have hD' := I'.size
    refine ⟨by rw [List.length_append, prs_len, hxs]; simp [hD']; omega, .inr ⟨fb, cap, cur', rfl, hfb, hc1, hcap, hmax, hc2, ?_⟩⟩
    apply List.ext_getElem?
    intro t
    by_cases ht : t < (N + acc.length) * 2
    · have hle : (N + acc.length) * 2 ≤ cap * 2 := Nat.mul_le_mul_right _ hcap
      rw [List.getElem?_take_of_lt ht, prow_get g xs N k D' hxs t (by rw [hD']; exact ht), ← I'.own.cell t ht]
      simp [World.cell?, hc1]
    · rw [List.getElem?_take_eq_none (by omega)]
      symm
      rw [List.getElem?_eq_none_iff, List.length_append, prs_len, hxs]
      simp [hD']; omega
  · exact h.keep X (S := fun b => b = fb) ((Keep.of_below hB0).trans (Keep.of_else I'.els rfl)) (fun b hb => by subst hb; exact hfb)

end Go.Proofs.Qxb6609005a
