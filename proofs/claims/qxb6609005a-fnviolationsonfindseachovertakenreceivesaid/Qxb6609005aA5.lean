import Derived.Test.Qxb6609005aA4
namespace Go.Proofs.Qxb6609005a
set_option linter.unusedSimpArgs false
set_option linter.unusedVariables false

/-! The linked backlog, plainly: positions 0 .. n-1, some alive; -1 stands before the first and behind the last. -/

/-- v is the next alive position behind a -/
def IsNext (n : Nat) (al : Nat → Bool) (a v : Int) : Prop :=
  (v = -1 ∧ ∀ j : Nat, a < j → j < n → al j = false) ∨ ∃ j : Nat, v = j ∧ a < j ∧ j < n ∧ al j = true ∧ ∀ t : Nat, a < t → t < j → al t = false
/-- v is the alive position before a -/
def IsPrev (al : Nat → Bool) (a v : Int) : Prop :=
  (v = -1 ∧ ∀ j : Nat, (j : Int) < a → al j = false) ∨ ∃ j : Nat, v = j ∧ (j : Int) < a ∧ al j = true ∧ ∀ t : Nat, j < t → (t : Int) < a → al t = false

/-- the links say which are alive -/
structure Links (n : Nat) (al : Nat → Bool) (nx pv : Nat → Int) (first : Int) : Prop where
  first : IsNext n al (-1) first
  next : ∀ i, i < n → al i = true → IsNext n al i (nx i)
  prev : ∀ i, i < n → al i = true → IsPrev al i (pv i)

theorem Links.start (n : Nat) (hn : 1 ≤ n) : Links n (fun i => decide (i < n)) (fun i => if i + 1 = n then -1 else (i : Int) + 1) (fun i => (i : Int) - 1) 0 := by
  refine ⟨.inr ⟨0, rfl, by omega, by omega, by simp; omega, fun t h1 h2 => by omega⟩, fun i hi _ => ?_, fun i hi _ => ?_⟩
  · by_cases e : i + 1 = n
    · rw [if_pos e]; exact .inl ⟨rfl, fun j h1 h2 => by omega⟩
    · rw [if_neg e]; exact .inr ⟨i + 1, by omega, by omega, by omega, by simp; omega, fun t h1 h2 => by omega⟩
  · by_cases e : i = 0
    · subst e; exact .inl ⟨rfl, fun j h1 => by omega⟩
    · exact .inr ⟨i - 1, by omega, by omega, by simp; omega, fun t h1 h2 => by omega⟩

/-- a position is taken out -/
theorem Links.take {n : Nat} {al : Nat → Bool} {nx pv : Nat → Int} {first : Int} (h : Links n al nx pv first) {i : Nat} (hi : i < n) (ha : al i = true) :
    Links n (fun j => al j && !decide (j = i)) (fun j => if (j : Int) = pv i then nx i else nx j) (fun j => if (j : Int) = nx i then pv i else pv j) (if pv i = -1 then nx i else first) := by
  have hN := h.next i hi ha
  have hP := h.prev i hi ha
  have key : ∀ a : Int, (a = pv i) → IsNext n (fun j => al j && !decide (j = i)) a (nx i) := by
    intro a e
    subst e
    have hlow : ∀ t : Nat, pv i < t → t < i → al t = false := by
      rcases hP with ⟨e, h1⟩ | ⟨j, e, h1, h2, h3⟩
      · exact fun t _ ht => h1 t (by omega)
      · exact fun t ht1 ht2 => h3 t (by omega) (by omega)
    have hpi : pv i < i := by rcases hP with ⟨e, _⟩ | ⟨j, e, h1, _⟩ <;> omega
    rcases hN with ⟨e, h1⟩ | ⟨j, e, h1, h2, h3, h4⟩
    · refine .inl ⟨e, fun j hj1 hj2 => ?_⟩
      by_cases eji : j = i
      · simp [eji]
      · by_cases hji : j < i
        · simp [hlow j hj1 hji]
        · simp [h1 j (by omega) hj2]
    · refine .inr ⟨j, e, by omega, h2, by simp [h3]; omega, fun t ht1 ht2 => ?_⟩
      by_cases eti : t = i
      · simp [eti]
      · by_cases hti : t < i
        · simp [hlow t ht1 hti]
        · simp [h4 t (by omega) ht2]
  have keyP : ∀ a : Int, a = nx i → 0 ≤ a → IsPrev (fun j => al j && !decide (j = i)) a (pv i) := by
    intro a e ha0
    rcases hN with ⟨e2, h1⟩ | ⟨jn, e2, hn1, hn2, hn3, hn4⟩
    · omega
    have hmid : ∀ t : Nat, (i : Int) < t → (t : Int) < a → al t = false := fun t h1 h2 => hn4 t h1 (by omega)
    rcases hP with ⟨e3, h1⟩ | ⟨j, e3, h1, h2, h3⟩
    · refine .inl ⟨e3, fun j hj => ?_⟩
      by_cases eji : j = i
      · simp [eji]
      · by_cases hji : j < i
        · simp [h1 j (by omega)]
        · simp [hmid j (by omega) hj]
    · refine .inr ⟨j, e3, by omega, by simp [h2]; omega, fun t ht1 ht2 => ?_⟩
      by_cases eti : t = i
      · simp [eti]
      · by_cases hti : t < i
        · simp [h3 t ht1 (by omega)]
        · simp [hmid t (by omega) ht2]
  -- a next that is not i stays
  have stay : ∀ a v : Int, IsNext n al a v → a ≠ pv i → a < n → (a = -1 ∨ ∃ b : Nat, a = b ∧ al b = true) → a ≠ i → IsNext n (fun j => al j && !decide (j = i)) a v := by
    intro a v hv hne han hal hai
    rcases hv with ⟨e, h1⟩ | ⟨j, e, h1, h2, h3, h4⟩
    · exact .inl ⟨e, fun j hj1 hj2 => by simp [h1 j hj1 hj2]⟩
    · have hji : j ≠ i := by
        intro eji
        subst eji
        -- then a is j's prev
        apply hne
        rcases hP with ⟨e3, g1⟩ | ⟨p, e3, g1, g2, g3⟩
        · rcases hal with ha1 | ⟨b, hb1, hb2⟩
          · omega
          · have := g1 b (by omega); rw [hb2] at this; cases this
        · rcases hal with ha1 | ⟨b, hb1, hb2⟩
          · have := h4 p (by omega) (by omega); rw [g2] at this; cases this
          · by_cases hbp : b = p
            · omega
            · by_cases hlt : b < p
              · have := h4 p (by omega) (by omega); rw [g2] at this; cases this
              · have := g3 b (by omega) (by omega); rw [hb2] at this; cases this
      exact .inr ⟨j, e, h1, h2, by simp [h3, hji], fun t ht1 ht2 => by simp [h4 t ht1 ht2]⟩
  have stayP : ∀ a v : Int, IsPrev al a v → a ≠ nx i → (∃ b : Nat, a = b ∧ al b = true ∧ b < n) → a ≠ i → IsPrev (fun j => al j && !decide (j = i)) a v := by
    intro a v hv hne hal hai
    obtain ⟨b, hb1, hb2, hb3⟩ := hal
    rcases hv with ⟨e, h1⟩ | ⟨j, e, h1, h2, h3⟩
    · exact .inl ⟨e, fun j hj => by simp [h1 j hj]⟩
    · have hji : j ≠ i := by
        intro eji
        subst eji
        apply hne
        rcases hN with ⟨e3, g1⟩ | ⟨p, e3, g1, g2, g3, g4⟩
        · have := g1 b (by omega) hb3; rw [hb2] at this; cases this
        · by_cases hbp : b = p
          · omega
          · by_cases hlt : b < p
            · have := g4 b (by omega) hlt; rw [hb2] at this; cases this
            · have := h3 p (by omega) (by omega); rw [g3] at this; cases this
      exact .inr ⟨j, e, h1, by simp [h2, hji], fun t ht1 ht2 => by simp [h3 t ht1 ht2]⟩
  refine ⟨?_, fun j hj haj => ?_, fun j hj haj => ?_⟩
  · by_cases e : pv i = -1
    · rw [if_pos e]; exact key (-1) e.symm
    · rw [if_neg e]; exact stay (-1) first h.first (fun h => e h.symm) (by omega) (.inl rfl) (by omega)
  · simp only [Bool.and_eq_true, Bool.not_eq_true', decide_eq_false_iff_not] at haj
    by_cases e : (j : Int) = pv i
    · simp only [e, if_true]; exact key _ rfl
    · simp only [e, if_false]; exact stay j (nx j) (h.next j hj haj.1) e (by omega) (.inr ⟨j, rfl, haj.1⟩) (by omega)
  · simp only [Bool.and_eq_true, Bool.not_eq_true', decide_eq_false_iff_not] at haj
    by_cases e : (j : Int) = nx i
    · simp only [e, if_true]; exact keyP _ rfl (by omega)
    · simp only [e, if_false]; exact stayP j (pv j) (h.prev j hj haj.1) e ⟨j, rfl, haj.1, hj⟩ (by omega)

/-- the alive ones up to a -/
def lst (al : Nat → Bool) (a : Int) : List Nat := (List.range (a + 1).toNat).filter al

theorem filter_range_ext (p : Nat → Bool) (a b : Nat) (hab : a ≤ b) (h : ∀ t, a ≤ t → t < b → p t = false) : (List.range b).filter p = (List.range a).filter p := by
  obtain ⟨d, rfl⟩ : ∃ d, b = a + d := ⟨b - a, by omega⟩
  induction d with
  | zero => rfl
  | succ d ih =>
    rw [← Nat.add_assoc, List.range_succ, List.filter_append, ih (by omega) (fun t h1 h2 => h t h1 (by omega))]
    simp [h (a + d) (by omega) (by omega)]

theorem lst_step {n : Nat} {al : Nat → Bool} {a : Int} (ha : -1 ≤ a) {j : Nat} (h : IsNext n al a j) : lst al j = lst al a ++ [j] ∧ a < j ∧ j < n ∧ al j = true := by
  rcases h with ⟨e, _⟩ | ⟨j', e, h1, h2, h3, h4⟩
  · omega
  · have ej : j = j' := by omega
    subst ej
    refine ⟨?_, h1, h2, h3⟩
    unfold lst
    rw [show ((j : Int) + 1).toNat = j + 1 by omega, List.range_succ, List.filter_append, filter_range_ext al (a + 1).toNat j (by omega) (fun t h5 h6 => h4 t (by omega) h6)]
    simp [h3]

/-- the walk is at its end: what is counted at most k has been met -/
theorem lst_done {n : Nat} {al : Nat → Bool} {cn : Nat → Int} {k a v : Int} (ha : -1 ≤ a) (han : a < n) (h : IsNext n al a v) (hs : ∀ i j, i < j → j < n → cn i ≤ cn j) (hle : ∀ i : Nat, (i : Int) ≤ a → al i = true → cn i ≤ k) (hend : v = -1 ∨ ∃ j : Nat, v = j ∧ k < cn j) :
    (List.range n).filter (fun i => al i && decide (cn i ≤ k)) = lst al a := by
  have hhi : ∀ t, (a + 1).toNat ≤ t → t < n → (al t && decide (cn t ≤ k)) = false := by
    intro t h1 h2
    rcases h with ⟨e, h3⟩ | ⟨j, e, h3, h4, h5, h6⟩
    · simp [h3 t (by omega) h2]
    · rcases hend with e2 | ⟨j', e2, h7⟩
      · omega
      · have ej : j' = j := by omega
        subst ej
        by_cases htj : t < j'
        · simp [h6 t (by omega) htj]
        · have : cn j' ≤ cn t := by
            by_cases e3 : j' = t
            · rw [e3]; exact Int.le_refl _
            · exact hs j' t (by omega) h2
          simp; intro _; omega
  rw [filter_range_ext _ (a + 1).toNat n (by omega) hhi]
  unfold lst
  apply List.filter_congr
  intro t ht
  rw [List.mem_range] at ht
  cases hal : al t with
  | false => rfl
  | true => simp [hle t (by omega) hal]

end Go.Proofs.Qxb6609005a
