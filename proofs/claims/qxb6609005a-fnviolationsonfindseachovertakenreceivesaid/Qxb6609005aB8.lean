import Derived.Test.Qxb6609005aB7
namespace Go.Proofs.Qxb6609005a
open Go.RowKit Go.WideMaps Go.Maps Go.Sort
set_option linter.unusedSimpArgs false
set_option linter.unusedVariables false
set_option linter.unusedSectionVars false

/-- the pairs as they came in -/
def Came (w : World) (v : Value) (N : Nat) (xs : List Value) : Prop :=
  (v = .slice none 0 0 ∧ N = 0 ∧ xs = []) ∨ (∃ bb o : Nat, v = .slice (some ⟨bb, o, none⟩) N N ∧ xs.length = N * 2 ∧ bb < w.heap.size ∧ ∀ j u, xs[j]? = some u → w.cell? ⟨bb, o + j, none⟩ = some u)

/-- the pairs found so far: of the call's own (blocks from base on), or just as they came -/
def FF (w : World) (base : Nat) (W : World) (v : Value) (N : Nat) (xs : List Value) : Prop := W.ownsRow base 53 2 v N xs ∨ Came w v N xs

theorem FF.fnd {w W : World} {base : Nat} {v : Value} {N : Nat} {xs : List Value} (h : FF w base W v N xs) (hb : Below w.heap.size w W) (hbase : w.heap.size ≤ base) : Fnd W base v N xs := by
  rcases h with h | ⟨rfl, rfl, rfl⟩ | ⟨bb, o, h1, h2, h3, h4⟩
  · exact .inl h
  · exact .inl (World.ownsRow_nil _ _ _ _)
  · exact .inr ⟨bb, o, h1, h2, by omega, fun j u hj => by rw [hb.cell h3]; exact h4 j u hj⟩
theorem FF.keep {w W W' : World} {base : Nat} {v : Value} {N : Nat} {xs : List Value} (h : FF w base W v N xs) {S : Nat → Prop} (K : Keep S W W') (hS : ∀ b, S b → b < base) : FF w base W' v N xs := by
  rcases h with h | h
  · exact .inl (ownsRow_keep h (fun b hb => K.block b (h.lt b hb).2 (fun e => by have := hS b e; have := (h.lt b hb).1; omega)))
  · exact .inr h
theorem FF.grow {w W W' : World} {base : Nat} {v : Value} {N : Nat} {xs : List Value} (h : FF w base W v N xs) (B : Below W.heap.size W W') : FF w base W' v N xs :=
  h.keep (S := fun _ => False) (Keep.of_below B) (fun b hb => hb.elim)
theorem FF.shape {w W : World} {base : Nat} {v : Value} {N : Nat} {xs : List Value} (h : FF w base W v N xs) : ∃ p c, v = .slice p N c ∧ N ≤ c := by
  rcases h with h | ⟨rfl, rfl, rfl⟩ | ⟨bb, o, h1, h2, h3, h4⟩
  · rcases h.2 with ⟨e, hn⟩ | ⟨g, cap, cur, e, _, _, hc, _⟩
    · exact ⟨none, 0, by rw [e, hn], by omega⟩
    · exact ⟨_, _, e, hc⟩
  · exact ⟨none, 0, rfl, Nat.le_refl _⟩
  · exact ⟨_, _, h1, Nat.le_refl _⟩
theorem FF.len {w W : World} {base : Nat} {v : Value} {N : Nat} {xs : List Value} (h : FF w base W v N xs) : xs.length = N * 2 := by
  rcases h with h | ⟨rfl, rfl, rfl⟩ | ⟨bb, o, h1, h2, h3, h4⟩
  · exact h.1
  · rfl
  · exact h2

/-- the pairs of event k while they are gathered -/
structure FA (g : Log) (w : World) (base k : Nat) (W : World) (v : Value) (N : Nat) (xs : List Value) (acc : List Nat) : Prop where
  ff : FF w base W v (N + acc.length) (xs ++ prs (g.pt k) g.pt acc)
  own : acc ≠ [] → W.ownsRow base 53 2 v (N + acc.length) (xs ++ prs (g.pt k) g.pt acc)

theorem FA.start {g : Log} {w : World} {base k : Nat} {W : World} {v : Value} {N : Nat} {xs : List Value} (h : FF w base W v N xs) : FA g w base k W v N xs [] := ⟨by simpa [prs] using h, fun hn => absurd rfl hn⟩
theorem FA.grow {g : Log} {w : World} {base k : Nat} {W W' : World} {v : Value} {N : Nat} {xs : List Value} {acc : List Nat} (h : FA g w base k W v N xs acc) (B : Below W.heap.size W W') : FA g w base k W' v N xs acc :=
  ⟨h.ff.grow B, fun hn => ownsRow_keep (h.own hn) (fun b hb => B.block b ((h.own hn).lt b hb).2)⟩

section
variable {g : Log} {w Wp W W' : World} {pm : Nat} {L : List ByteArray} {Q rb cp : Nat → Nat} {vS : Value} {D : Nat → Array Nat} {cb nb pb : Nat → Nat} {f : Nat → Option Value} {k : Nat}

/-- one sender's overtaken receives are added -/
theorem overF (h : Ph3 g w Wp pm L Q rb cp vS D cb nb pb f (k + 1) W) (X : Fix g w Wp pm L Q rb vS D cb nb pb f) (hm : g.m ≤ 1024) {t : Nat} (ht : t < L.length) (c : Int) {v : Value} {N : Nat} {xs : List Value} {acc : List Nat} (F : FA g w Wp.heap.size k W v N xs acc) (hN : N + acc.length ≤ 4000000) :
    Calls Try.prog 37 #[.pointer (some ⟨Q t, 0, none⟩), .pointer (some ⟨g.E k, 0, none⟩), .int .u64 c, v] W fun e w' => ∃ v', e = .returned v' ∧ Ph3 g w Wp pm L Q rb cp vS D cb nb pb f (k + 1) w' ∧ FA g w Wp.heap.size k w' v' N xs (acc ++ late g (D t) k c) := by
  have hwp := X.wp
  refine (h.over X hm ht c (F.ff.fnd h.bel (by omega)) hN).mono ?_
  rintro e w' ⟨v', he, hP, hF, hown, hsame⟩
  have e1 : prs (g.pt k) g.pt (acc ++ late g (D t) k c) = prs (g.pt k) g.pt acc ++ prs (g.pt k) g.pt (late g (D t) k c) := by simp [prs, List.flatMap_append]
  have e2 : N + (acc ++ late g (D t) k c).length = N + acc.length + (late g (D t) k c).length := by rw [List.length_append]; omega
  refine ⟨v', he, hP, ?_, fun hn => ?_⟩
  · rw [e1, e2, ← List.append_assoc]
    by_cases hl : late g (D t) k c = []
    · rcases F.ff with ho | hc
      · exact .inl (hown (.inr ho))
      · right
        rw [hsame hl, hl]
        simpa [prs] using hc
    · exact .inl (hown (.inl hl))
  · rw [e1, e2, ← List.append_assoc]
    by_cases hl : late g (D t) k c = []
    · refine hown (.inr (F.own ?_))
      intro ha; apply hn; rw [ha, hl]; rfl
    · exact hown (.inl hl)

/-- the state at the head of the last loop -/
structure R4 (g : Log) (w Wp : World) (pm : Nat) (L : List ByteArray) (Q rb cp : Nat → Nat) (vS : Value) (D : Nat → Array Nat) (cb nb pb : Nat → Nat) (f : Nat → Option Value) (fifo : Bool) (N0 : Nat) (xs0 : List Value) (k : Nat) (G : Nat → List Nat) (v : Value) (W : World) : Prop where
  ph : Ph3 g w Wp pm L Q rb cp vS D cb nb pb f k W
  ok : GOk g fifo k G
  ff : FF w Wp.heap.size W v (N0 + allN G k) (xs0 ++ allP g G k)

theorem R4.skip {fifo : Bool} {N0 : Nat} {xs0 : List Value} {G : Nat → List Nat} {v : Value} (h : R4 g w Wp pm L Q rb cp vS D cb nb pb f fifo N0 xs0 k G v W) (X : Fix g w Wp pm L Q rb vS D cb nb pb f) (hr : g.rv k = false) : ∃ G', R4 g w Wp pm L Q rb cp vS D cb nb pb f fifo N0 xs0 (k + 1) G' v W := by
  refine ⟨fun i => if i = k then [] else G i, h.ph.skip X hr, h.ok.step (fun x => by rw [hr] at x; cases x) (fun _ => rfl) (keySorted_small g (by simp)), ?_⟩
  obtain ⟨c1, c2⟩ := all_congr (k := k) (G := G) (G' := fun i => if i = k then [] else G i) (fun i hi => by simp [show i ≠ k by omega]) g
  rw [allP_succ, allN_succ, ← c1, ← c2]
  simpa [prs] using h.ff

/-- the pairs of event k are sorted -/
theorem R4.next {fifo : Bool} {N0 : Nat} {xs0 : List Value} {G : Nat → List Nat} {v : Value} {l acc : List Nat} (hok : GOk g fifo k G) (hph : Ph3 g w Wp pm L Q rb cp vS D cb nb pb f (k + 1) W) (hr : g.rv k = true) (hp : l.Perm acc) (hacc : acc.Perm ((List.range g.m).filter (g.ov fifo k))) (hs : KeySorted g l)
    (hff : FF w Wp.heap.size W v (N0 + allN G k + acc.length) ((xs0 ++ allP g G k) ++ prs (g.pt k) g.pt l)) : ∃ G', R4 g w Wp pm L Q rb cp vS D cb nb pb f fifo N0 xs0 (k + 1) G' v W := by
  refine ⟨fun i => if i = k then l else G i, hph, hok.step (fun _ => hp.trans hacc) (fun x => by rw [hr] at x; cases x) hs, ?_⟩
  obtain ⟨c1, c2⟩ := all_congr (k := k) (G := G) (G' := fun i => if i = k then l else G i) (fun i hi => by simp [show i ≠ k by omega]) g
  rw [allP_succ, allN_succ, ← c1, ← c2]
  simp only [if_true]
  rw [hp.length_eq, ← Nat.add_assoc, ← List.append_assoc]
  exact hff
end

end Go.Proofs.Qxb6609005a
