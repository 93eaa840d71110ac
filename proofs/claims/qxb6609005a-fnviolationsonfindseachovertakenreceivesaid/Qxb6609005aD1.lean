import Derived.Test.Qxb6609005aC7
import Derived.Test.Qxb6609005aB3
import Derived.Test.Qxb6609005aD0
namespace Go.Proofs.Qxb6609005a
open Go.RowKit Go.WideMaps Go.Maps Go.Sort
set_option linter.unusedSimpArgs false
set_option linter.unusedVariables false
set_option linter.unusedSectionVars false

/-- ZZviolationsOn is violationsOn -/
theorem zzViol_any (g : Log) (w : World) (a0 : Option Addr) (c0 : Nat) (d : Int) (v0 : Value) (N0 : Nat) (xs0 : List Value) (LB : LogAt w g) (hR : Rd w a0 g.m (fun i => g.pt i)) (hm : g.m ≤ 1024) (hC : Came w v0 N0 xs0) (hN : N0 ≤ 65536) (hd : d = 1 ∨ d = 2) :
    Calls Try.prog 22 #[.slice a0 g.m c0, .int .u8 d, v0] w fun e w' => ∃ v', e = .returned v' ∧ VOn g w (decide (d = 1)) N0 xs0 v' w' := by
  have C : Hid (Calls Try.prog 31 #[.slice a0 g.m c0, .int .u8 d, v0] w fun e w' => ∃ v', e = .returned v' ∧ VOn g w (decide (d = 1)) N0 xs0 v' w') := violOn_any g w a0 c0 d v0 N0 xs0 LB hR hm hC hN hd
  clear LB hR hC hd
  go_enter Try.func22, Try.ntmps22
  go_wp2_with fail
  refine C.out.mono ?_
  rintro e w1 ⟨v', rfl, H⟩
  have HV : Hid _ := H
  clear H C
  go_wp2
  go_ret
  exact ⟨_, rfl, HV.out⟩

/-- pairs as cells -/
def flat2 (ps : List (Value × Value)) : List Value := ps.flatMap fun p => [p.1, p.2]
theorem flat2_cons (q : Value × Value) (ps : List (Value × Value)) : flat2 (q :: ps) = q.1 :: q.2 :: flat2 ps := by simp [flat2]
theorem flat2_at : ∀ (ps : List (Value × Value)) (t : Nat) (p : Value × Value), ps[t]? = some p → (flat2 ps)[t * 2]? = some p.1 ∧ (flat2 ps)[t * 2 + 1]? = some p.2
  | [], t, p, h => by simp at h
  | q :: ps, 0, p, h => by simp at h; subst h; simp [flat2]
  | q :: ps, t + 1, p, h => by
    have := flat2_at ps t p (by simpa using h)
    rw [flat2_cons]
    refine ⟨?_, ?_⟩
    · rw [show (t + 1) * 2 = t * 2 + 1 + 1 by omega, List.getElem?_cons_succ, List.getElem?_cons_succ]; exact this.1
    · rw [show (t + 1) * 2 + 1 = t * 2 + 1 + 1 + 1 by omega, List.getElem?_cons_succ, List.getElem?_cons_succ]; exact this.2
theorem flat2_len : ∀ (ps : List (Value × Value)), (flat2 ps).length = ps.length * 2
  | [] => rfl
  | q :: ps => by rw [flat2_cons]; simp [flat2_len ps]; omega
theorem flat2_append (a b : List (Value × Value)) : flat2 (a ++ b) = flat2 a ++ flat2 b := by simp [flat2, List.flatMap_append]

/-- the pairs found, by positions -/
def pl (G : Nat → List Nat) (k : Nat) : List (Nat × Nat) := (List.range k).flatMap fun i => (G i).map fun j => (i, j)
theorem pl_succ (G : Nat → List Nat) (k : Nat) : pl G (k + 1) = pl G k ++ (G k).map fun j => (k, j) := by simp [pl, List.range_succ, List.flatMap_append]
theorem pl_len (G : Nat → List Nat) : ∀ k, (pl G k).length = allN G k
  | 0 => rfl
  | k + 1 => by rw [pl_succ, List.length_append, pl_len G k, allN_succ, List.length_map]
theorem pl_mem {G : Nat → List Nat} {k : Nat} {p : Nat × Nat} : p ∈ pl G k ↔ p.1 < k ∧ p.2 ∈ G p.1 := by
  obtain ⟨a, b⟩ := p
  simp only [pl, List.mem_flatMap, List.mem_range, List.mem_map, Prod.mk.injEq]
  constructor
  · rintro ⟨i, hi, j, hj, rfl, rfl⟩; exact ⟨hi, hj⟩
  · rintro ⟨h1, h2⟩; exact ⟨a, h1, b, h2, rfl, rfl⟩
theorem pl_at {G : Nat → List Nat} : ∀ {k i s : Nat} (hi : i < k) (h : s < (G i).length), (pl G k)[allN G i + s]? = some (i, (G i)[s])
  | 0, i, s, hi, h => by omega
  | k + 1, i, s, hi, h => by
    rw [pl_succ]
    by_cases e : i = k
    · subst e
      rw [List.getElem?_append_right (by rw [pl_len]; omega), pl_len, show allN G i + s - allN G i = s by omega, List.getElem?_map, List.getElem?_eq_getElem h]
      rfl
    · have := pl_at (k := k) (i := i) (s := s) (by omega) h
      have hl := (List.getElem?_eq_some_iff.1 this).1
      rw [List.getElem?_append_left hl]; exact this

def Log.pp (g : Log) (p : Nat × Nat) : Value × Value := (g.pt p.1, g.pt p.2)
theorem prs_flat (g : Log) (k : Nat) : ∀ l : List Nat, prs (g.pt k) g.pt l = flat2 ((l.map fun j => (k, j)).map g.pp)
  | [] => rfl
  | a :: l => by
    have := prs_flat g k l
    simp only [List.map_cons, flat2_cons]
    rw [← this]
    simp [prs, Log.pp]
theorem allP_flat (g : Log) (G : Nat → List Nat) : ∀ k, allP g G k = flat2 ((pl G k).map g.pp)
  | 0 => rfl
  | k + 1 => by rw [allP_succ, allP_flat g G k, pl_succ, List.map_append, flat2_append, prs_flat]

/-- a row of pairs, to be read -/
def TwoAt (w : World) (v : Value) (ps : List (Value × Value)) : Prop :=
  ∃ a c, v = .slice a ps.length c ∧ (ps.length = 0 ∨ ∃ b o, a = some ⟨b, o, none⟩ ∧ b < w.heap.size ∧ ∀ t p, ps[t]? = some p → w.cell? ⟨b, o + t * 2, none⟩ = some p.1 ∧ w.cell? ⟨b, o + t * 2 + 1, none⟩ = some p.2)
theorem TwoAt.below {w w' : World} {v : Value} {ps : List (Value × Value)} (h : TwoAt w v ps) (B : Below w.heap.size w w') : TwoAt w' v ps := by
  obtain ⟨a, c, e, h⟩ := h
  refine ⟨a, c, e, ?_⟩
  rcases h with h | ⟨b, o, h1, h2, h3⟩
  · exact .inl h
  · exact .inr ⟨b, o, h1, Nat.lt_of_lt_of_le h2 B.size, fun t p hp => by rw [B.cell h2, B.cell h2]; exact h3 t p hp⟩
theorem FF.two {w W : World} {base : Nat} {v : Value} {N : Nat} {xs : List Value} {ps : List (Value × Value)} (h : FF w base W v N xs) (hb : Below w.heap.size w W) (hx : xs = flat2 ps) (hN : N = ps.length) : TwoAt W v ps := by
  subst hx; subst hN
  rcases h with h | ⟨rfl, h2, h3⟩ | ⟨bb, o, h1, h2, h3, h4⟩
  · rcases h.2 with ⟨e, hn⟩ | ⟨g, cap, cur, e, _, hg, _⟩
    · exact ⟨none, 0, by rw [e, hn], .inl hn⟩
    · refine ⟨some ⟨g, 0, none⟩, cap, e, .inr ⟨g, 0, rfl, (Array.getElem?_eq_some_iff.1 hg).1, fun t p hp => ?_⟩⟩
      subst e
      obtain ⟨q1, q2⟩ := flat2_at ps t p hp
      have ht : t < ps.length := (List.getElem?_eq_some_iff.1 hp).1
      rw [Nat.zero_add, h.cellAt _ (by omega), h.cellAt _ (by omega)]
      exact ⟨q1, q2⟩
  · exact ⟨none, 0, by rw [h2], .inl h2⟩
  · refine ⟨_, _, h1, .inr ⟨bb, o, rfl, Nat.lt_of_lt_of_le h3 hb.size, fun t p hp => ?_⟩⟩
    obtain ⟨q1, q2⟩ := flat2_at ps t p hp
    rw [hb.cell h3, hb.cell h3]
    exact ⟨h4 _ _ q1, by have := h4 _ _ q2; rw [← Nat.add_assoc] at this; exact this⟩

/-- what a call of violationsOn leaves, for the reader -/
structure VRes (g : Log) (w : World) (fifo : Bool) (ps0 : List (Value × Value)) (G : Nat → List Nat) (v' : Value) (w' : World) : Prop where
  ok : GOk g fifo g.m G
  two : TwoAt w' v' (ps0 ++ (pl G g.m).map g.pp)
  bel : Below w.heap.size w w'
theorem VOn.res {g : Log} {w : World} {fifo : Bool} {N0 : Nat} {xs0 : List Value} {v' : Value} {w' : World} (h : VOn g w fifo N0 xs0 v' w') {ps0 : List (Value × Value)} (hx : xs0 = flat2 ps0) (hN : N0 = ps0.length) : ∃ G, VRes g w fifo ps0 G v' w' := by
  obtain ⟨G, base, h1, h2, h3, h4⟩ := h
  refine ⟨G, h1, h2.two h4 ?_ ?_, h4⟩
  · rw [hx, allP_flat, flat2_append]
  · rw [hN, List.length_append, List.length_map, pl_len]

/-! counts -/
def cnB (p : Nat → Bool) (k : Nat) : Nat := ((List.range k).filter p).length
theorem cnB_succ (p : Nat → Bool) (k : Nat) : cnB p (k + 1) = cnB p k + (if p k = true then 1 else 0) := by
  unfold cnB
  rw [List.range_succ, List.filter_append, List.length_append, List.filter_cons]
  cases p k <;> simp
theorem cnB_le (p : Nat → Bool) : ∀ k, cnB p k ≤ k
  | 0 => by simp [cnB]
  | k + 1 => by rw [cnB_succ]; have := cnB_le p k; split <;> omega
theorem cnB_zero (p : Nat → Bool) : ∀ k, (∀ j, j < k → p j = false) → cnB p k = 0
  | 0, _ => by simp [cnB]
  | k + 1, h => by rw [cnB_succ, cnB_zero p k (fun j hj => h j (by omega)), h k (by omega)]; rfl

section
variable {nm : Nat → ByteArray} {n0 : Nat} {ev : Nat → Ev} {bm : Nat} {E F : Nat → Nat} {m : Nat}

theorem ovB_log (fifo : Bool) (i j : Nat) : ovB nm n0 ev fifo i j = ((ev i).rv && (lg ev nm n0 bm E F m).ov fifo i j) := by
  unfold ovB Log.ov
  have rj : (lg ev nm n0 bm E F m).rv j = (ev j).rv := rfl
  rw [rj]
  cases hi : (ev i).rv with
  | false => simp
  | true =>
    cases hj : (ev j).rv with
    | false => simp
    | true =>
      have e1 : (ev j).on nm n0 = (lg ev nm n0 bm E F m).own j := by unfold Ev.on; rw [if_pos hj]; rfl
      have e2 : (ev i).on nm n0 = (lg ev nm n0 bm E F m).own i := by unfold Ev.on; rw [if_pos hi]; rfl
      have e3 : cntI (ev i) ((ev j).ix nm n0) = (lg ev nm n0 bm E F m).cnt i ((lg ev nm n0 bm E F m).ho j) := by unfold Ev.ix; rw [if_pos hj, cntI_ixZ]; rfl
      rw [e1, e2, e3]
      simp only [Bool.and_true, Bool.true_and]
      rfl

theorem ovB_lt {fifo : Bool} {i j : Nat} (h : ovB nm n0 ev fifo i j = true) : i < j := by
  unfold ovB at h
  simp only [Bool.and_eq_true, decide_eq_true_eq] at h
  exact h.1.1.1
theorem ovB_rv {fifo : Bool} {i j : Nat} (h : ovB nm n0 ev fifo i j = true) : (ev i).rv = true ∧ (ev j).rv = true := by
  unfold ovB at h
  simp only [Bool.and_eq_true, decide_eq_true_eq] at h
  exact ⟨h.1.1.2, h.1.2⟩
/-- what FIFO finds, Causal finds -/
theorem ovB_fifo {i j : Nat} (h : ovB nm n0 ev true i j = true) : ovB nm n0 ev false i j = true := by
  have hrv := ovB_rv h
  unfold ovB at h ⊢
  simp only [Bool.and_eq_true, decide_eq_true_eq, if_true, Bool.false_eq_true, if_false] at h ⊢
  refine ⟨h.1, ?_⟩
  obtain ⟨h1, h2⟩ := h.2
  have e3 : cntI (ev i) ((ev j).ix nm n0) = (ev i).on nm n0 := by
    unfold Ev.ix Ev.on; rw [if_pos hrv.2, if_pos hrv.1, cntI_ixZ, h1]
  rw [e3]; exact h2

theorem GOk.perm' {fifo : Bool} {G : Nat → List Nat} (h : GOk (lg ev nm n0 bm E F m) fifo m G) {i : Nat} (hi : i < m) : (G i).Perm ((List.range m).filter (ovB nm n0 ev fifo i)) := by
  cases hr : (ev i).rv with
  | true =>
    refine (h.perm i hi hr).trans (List.Perm.of_eq ?_)
    show (List.range m).filter ((lg ev nm n0 bm E F m).ov fifo i) = _
    refine List.filter_congr fun j _ => ?_
    rw [ovB_log (bm := bm) (E := E) (F := F) (m := m), hr]; rfl
  | false =>
    rw [h.none i hi hr]
    have : (List.range m).filter (ovB nm n0 ev fifo i) = [] := by
      rw [List.filter_eq_nil_iff]
      intro j _ hj
      have := (ovB_rv hj).1
      rw [hr] at this; cases this
    rw [this]
theorem GOk.len {fifo : Bool} {G : Nat → List Nat} (h : GOk (lg ev nm n0 bm E F m) fifo m G) {i : Nat} (hi : i < m) : (G i).length = cnB (ovB nm n0 ev fifo i) m := (h.perm' hi).length_eq
theorem GOk.mem {fifo : Bool} {G : Nat → List Nat} (h : GOk (lg ev nm n0 bm E F m) fifo m G) {i : Nat} (hi : i < m) {j : Nat} : j ∈ G i ↔ j < m ∧ ovB nm n0 ev fifo i j = true := by
  rw [(h.perm' hi).mem_iff, List.mem_filter, List.mem_range]
theorem GOk.nodup {fifo : Bool} {G : Nat → List Nat} (h : GOk (lg ev nm n0 bm E F m) fifo m G) {i : Nat} (hi : i < m) : (G i).Nodup := by
  rw [(h.perm' hi).nodup_iff]
  exact List.Pairwise.filter _ List.nodup_range
theorem pl_dom {fifo : Bool} {G : Nat → List Nat} (h : GOk (lg ev nm n0 bm E F m) fifo m G) {p : Nat × Nat} (hp : p ∈ pl G m) : p.1 < m ∧ p.2 < m := by
  obtain ⟨h1, h2⟩ := pl_mem.1 hp
  exact ⟨h1, ((h.mem h1).1 h2).1⟩
theorem pl_sub {G G' : Nat → List Nat} (h : GOk (lg ev nm n0 bm E F m) true m G) (h' : GOk (lg ev nm n0 bm E F m) false m G') {p : Nat × Nat} (hp : p ∈ pl G m) : p ∈ pl G' m := by
  obtain ⟨h1, h2⟩ := pl_mem.1 hp
  obtain ⟨h3, h4⟩ := (h.mem h1).1 h2
  exact pl_mem.2 ⟨h1, (h'.mem h1).2 ⟨h3, ovB_fifo h4⟩⟩
end

end Go.Proofs.Qxb6609005a
