import Derived.Test.Qxb6608865aW2
namespace Go.Proofs.Qxb6608865a
open Go.RowKit
set_option linter.unusedSimpArgs false
set_option linter.unusedVariables false

/-! The plain law: tags, counts, an entry put in, an entry taken out. -/

theorem tlB_iff {c1 n1 c2 n2 : Int} : tlB c1 n1 c2 n2 = true ↔ (c1 < c2 ∨ (c1 = c2 ∧ n1 < n2)) := by
  unfold tlB
  split
  · next h => simp [h]
  · next h => simp [h]
theorem tlB_not {c1 n1 c2 n2 : Int} : tlB c1 n1 c2 n2 = false ↔ ¬ (c1 < c2 ∨ (c1 = c2 ∧ n1 < n2)) := by
  rw [← tlB_iff]; simp
theorem tlB_trans {c1 n1 c2 n2 c3 n3 : Int} (h : tlB c1 n1 c2 n2 = true) (g : tlB c2 n2 c3 n3 = true) : tlB c1 n1 c3 n3 = true := by
  rw [tlB_iff] at *; omega
theorem tlB_self (c n : Int) : tlB c n c n = false := by rw [tlB_not]; omega

/-- strictly sorted -/
def Sorted (cs ns : Nat → Int) (n : Nat) : Prop := ∀ i, i + 1 < n → tlB (cs i) (ns i) (cs (i + 1)) (ns (i + 1)) = true

theorem Sorted.far {cs ns : Nat → Int} {n : Nat} (h : Sorted cs ns n) : ∀ d i, i + d + 1 < n → tlB (cs i) (ns i) (cs (i + d + 1)) (ns (i + d + 1)) = true
  | 0, i, hi => h i hi
  | d + 1, i, hi => tlB_trans (h.far d i (by omega)) (h (i + d + 1) (by omega))
theorem Sorted.lt {cs ns : Nat → Int} {n : Nat} (h : Sorted cs ns n) {i j : Nat} (hij : i < j) (hj : j < n) : tlB (cs i) (ns i) (cs j) (ns j) = true := by
  have := h.far (j - i - 1) i (by omega)
  rwa [show i + (j - i - 1) + 1 = j by omega] at this
theorem Sorted.mono {cs ns : Nat → Int} {n : Nat} (h : Sorted cs ns n) (c nd : Int) : Mono cs ns c nd n := by
  intro i j hij hj d
  rcases Nat.eq_or_lt_of_le hij with e | e
  · subst e; exact d
  · exact tlB_trans (h.lt e hj) d

/-- the entry at i is the tag -/
def eqAt (cs ns : Nat → Int) (c nd : Int) (i : Nat) : Bool := cs i == c && ns i == nd
def belowN (cs ns : Nat → Int) (c nd : Int) : Nat → Nat
  | 0 => 0
  | n + 1 => belowN cs ns c nd n + if tlB (cs n) (ns n) c nd then 1 else 0
def presN (cs ns : Nat → Int) (c nd : Int) : Nat → Bool
  | 0 => false
  | n + 1 => presN cs ns c nd n || eqAt cs ns c nd n

theorem belowN_le (cs ns : Nat → Int) (c nd : Int) : ∀ n, belowN cs ns c nd n ≤ n
  | 0 => Nat.le_refl _
  | n + 1 => by have := belowN_le cs ns c nd n; unfold belowN; split <;> omega
theorem belowN_yes {cs ns : Nat → Int} {c nd : Int} {n : Nat} (h : tlB (cs n) (ns n) c nd = true) : belowN cs ns c nd (n + 1) = belowN cs ns c nd n + 1 := by rw [belowN, h]; simp
theorem belowN_no {cs ns : Nat → Int} {c nd : Int} {n : Nat} (h : tlB (cs n) (ns n) c nd = false) : belowN cs ns c nd (n + 1) = belowN cs ns c nd n := by rw [belowN, h]; simp

theorem belowN_span {cs ns : Nat → Int} {c nd : Int} {n k : Nat} (hk : k ≤ n) (s : Span cs ns c nd n k k) : ∀ j, j ≤ n → belowN cs ns c nd j = min j k
  | 0, _ => by simp [belowN]
  | j + 1, hj => by
    have ih := belowN_span hk s j (by omega)
    by_cases h : j < k
    · rw [belowN_yes (s.1 j h), ih]; omega
    · rw [belowN_no (s.2 j (by omega) (by omega)), ih]; omega

theorem presN_iff (cs ns : Nat → Int) (c nd : Int) : ∀ n, presN cs ns c nd n = true ↔ ∃ i, i < n ∧ cs i = c ∧ ns i = nd
  | 0 => by simp [presN]
  | n + 1 => by
    rw [presN, Bool.or_eq_true, presN_iff cs ns c nd n]
    constructor
    · rintro (⟨i, h, g⟩ | g)
      · exact ⟨i, by omega, g⟩
      · exact ⟨n, by omega, by simpa [eqAt] using g⟩
    · rintro ⟨i, h, g⟩
      by_cases e : i = n
      · subst e; exact .inr (by simpa [eqAt] using g)
      · exact .inl ⟨i, by omega, g⟩

theorem isAt_iff {cs ns : Nat → Int} {c nd : Int} {n k : Nat} : isAt cs ns c nd n k = true ↔ k < n ∧ cs k = c ∧ ns k = nd := by simp [isAt]

/-- present just where the search's place bears it -/
theorem presN_isAt {cs ns : Nat → Int} {c nd : Int} {n k : Nat} (h : Sorted cs ns n) (hk : k ≤ n) (s : Span cs ns c nd n k k) : presN cs ns c nd n = isAt cs ns c nd n k := by
  rw [Bool.eq_iff_iff, presN_iff, isAt_iff]
  constructor
  · rintro ⟨i, hi, e1, e2⟩
    have a : ¬ i < k := by
      intro hlt
      have := s.1 i hlt
      rw [e1, e2, tlB_self] at this; cases this
    have b : ¬ k < i := by
      intro hlt
      have d := h.lt hlt hi
      rw [e1, e2] at d
      have := s.2 k (Nat.le_refl _) (by omega)
      rw [d] at this; cases this
    obtain rfl : i = k := by omega
    exact ⟨hi, e1, e2⟩
  · rintro ⟨a, b, c'⟩; exact ⟨k, a, b, c'⟩

/-- the tag put in at k -/
def ins (f : Nat → Int) (k : Nat) (v : Int) (i : Nat) : Int := if i < k then f i else if i = k then v else f (i - 1)
/-- the entry at k taken out -/
def del (f : Nat → Int) (k : Nat) (i : Nat) : Int := if i < k then f i else f (i + 1)

theorem ins_lt {f : Nat → Int} {k i : Nat} {v : Int} (h : i < k) : ins f k v i = f i := by simp [ins, h]
theorem ins_at {f : Nat → Int} {k : Nat} {v : Int} : ins f k v k = v := by simp [ins]
theorem ins_gt {f : Nat → Int} {k i : Nat} {v : Int} (h : k ≤ i) : ins f k v (i + 1) = f i := by simp [ins, show ¬ i + 1 < k by omega, show ¬ i + 1 = k by omega]

theorem ins_before {cs ns : Nat → Int} {c nd : Int} {n k : Nat} (s : Span cs ns c nd n k k) (i : Nat) (hi : i < n + 1) :
    tlB (ins cs k c i) (ins ns k nd i) c nd = decide (i < k) := by
  rcases Nat.lt_trichotomy i k with h | h | h
  · rw [ins_lt h, ins_lt h, s.1 i h]; simp [h]
  · subst h; rw [ins_at, ins_at, tlB_self]; simp
  · obtain ⟨j, rfl⟩ : ∃ j, i = j + 1 := ⟨i - 1, by omega⟩
    rw [ins_gt (by omega), ins_gt (by omega), s.2 j (by omega) (by omega)]
    simp [show ¬ j + 1 < k by omega]

theorem ins_mono {cs ns : Nat → Int} {c nd : Int} {n k : Nat} (s : Span cs ns c nd n k k) : Mono (ins cs k c) (ins ns k nd) c nd (n + 1) := by
  intro i j hij hj d
  rw [ins_before s j hj] at d
  rw [ins_before s i (by omega)]
  simp at d ⊢; omega

/-- found where it was put in -/
theorem ins_found {cs ns : Nat → Int} {c nd : Int} {n k : Nat} (hk : k ≤ n) (s : Span cs ns c nd n k k) {e : Ending} (h : Found (ins cs k c) (ins ns k nd) c nd (n + 1) e) :
    e = .returned (.tuple #[.int .i64 k, .bool true]) := by
  obtain ⟨j, hj, t, rfl⟩ := h
  have a : ¬ j < k := by
    intro hlt
    have := t.2 j (Nat.le_refl _) (by omega)
    rw [ins_before s j (by omega)] at this; simp at this; omega
  have b : ¬ k < j := by
    intro hlt
    have := t.1 k hlt
    rw [ins_before s k (by omega)] at this; simp at this
  obtain rfl : j = k := by omega
  have : isAt (ins cs j c) (ins ns j nd) c nd (n + 1) j = true := by rw [isAt_iff]; exact ⟨by omega, ins_at, ins_at⟩
  rw [this]

theorem del_lt {f : Nat → Int} {k i : Nat} (h : i < k) : del f k i = f i := by simp [del, h]
theorem del_ge {f : Nat → Int} {k i : Nat} (h : k ≤ i) : del f k i = f (i + 1) := by simp [del, show ¬ i < k by omega]

theorem del_before {cs ns : Nat → Int} {c nd : Int} {n k : Nat} (s : Span cs ns c nd n k k) (i : Nat) (hi : i + 1 < n) :
    tlB (del cs k i) (del ns k i) c nd = decide (i < k) := by
  by_cases h : i < k
  · rw [del_lt h, del_lt h, s.1 i h]; simp [h]
  · rw [del_ge (by omega), del_ge (by omega), s.2 (i + 1) (by omega) (by omega)]; simp [h]

theorem del_mono {cs ns : Nat → Int} {c nd : Int} {n k : Nat} (s : Span cs ns c nd n k k) (hn : 0 < n) : Mono (del cs k) (del ns k) c nd (n - 1) := by
  intro i j hij hj d
  rw [del_before s j (by omega)] at d
  rw [del_before s i (by omega)]
  simp at d ⊢; omega

/-- missed where it was taken out -/
theorem del_found {cs ns : Nat → Int} {c nd : Int} {n k : Nat} (h0 : Sorted cs ns n) (s : Span cs ns c nd n k k) (hat : isAt cs ns c nd n k = true) {e : Ending} (h : Found (del cs k) (del ns k) c nd (n - 1) e) :
    e = .returned (.tuple #[.int .i64 k, .bool false]) := by
  obtain ⟨hk, e1, e2⟩ := isAt_iff.1 hat
  obtain ⟨j, hj, t, rfl⟩ := h
  have a : ¬ j < k := by
    intro hlt
    have := t.2 j (Nat.le_refl _) (by omega)
    rw [del_before s j (by omega)] at this; simp at this; omega
  have b : ¬ k < j := by
    intro hlt
    have := t.1 k hlt
    rw [del_before s k (by omega)] at this; simp at this
  obtain rfl : j = k := by omega
  have : isAt (del cs j) (del ns j) c nd (n - 1) j = false := by
    cases hx : isAt (del cs j) (del ns j) c nd (n - 1) j with
    | false => rfl
    | true =>
      obtain ⟨g1, g2, g3⟩ := isAt_iff.1 hx
      rw [del_ge (Nat.le_refl _)] at g2 g3
      have := h0 j (by omega)
      rw [e1, e2, g2, g3, tlB_self] at this
      cases this
  rw [this]

/-- how many are kept of the first j, k left out -/
def remN (k j : Nat) : Nat := if j ≤ k then j else j - 1
theorem remN_zero (k : Nat) : remN k 0 = 0 := by simp [remN]
theorem remN_le (k j : Nat) : remN k j ≤ j := by unfold remN; split <;> omega
theorem remN_at (k : Nat) : remN k (k + 1) = remN k k := by simp [remN, show ¬ k + 1 ≤ k by omega]
theorem remN_ne {k j : Nat} (h : j ≠ k) : remN k (j + 1) = remN k j + 1 := by unfold remN; split <;> split <;> omega
theorem remN_lt {k j n : Nat} (hk : k < n) (h : j ≠ k) (hj : j < n) : remN k j < n - 1 := by unfold remN; split <;> omega
theorem remN_end {k n : Nat} (hk : k < n) : remN k n = n - 1 := by simp [remN, show ¬ n ≤ k by omega]
theorem del_remN {f : Nat → Int} {k j : Nat} (h : j ≠ k) : del f k (remN k j) = f j := by
  unfold remN
  split
  · rw [del_lt (by omega)]
  · rw [del_ge (by omega), show j - 1 + 1 = j by omega]

/-- the row with k left out, after j rounds -/
def kept (f : Nat → Int) (k j : Nat) : List Value := (List.range (remN k j)).map (fun t => .int .u64 (del f k t))
theorem kept_length (f : Nat → Int) (k j : Nat) : (kept f k j).length = remN k j := by simp [kept]
theorem kept_ne {f : Nat → Int} {k j : Nat} (h : j ≠ k) : kept f k (j + 1) = kept f k j ++ [.int .u64 (f j)] := by
  unfold kept; rw [remN_ne h, List.range_succ, List.map_append]; simp [del_remN h]
theorem kept_at (f : Nat → Int) (k : Nat) : kept f k (k + 1) = kept f k k := by unfold kept; rw [remN_at]
theorem kept_get (f : Nat → Int) (k j i : Nat) (hi : i < remN k j) : (kept f k j)[i]? = some (.int .u64 (del f k i)) := by simp [kept, hi]

/-- each entry's own tag is found at its own place -/
theorem self_found {cs ns : Nat → Int} {n k : Nat} (h0 : Sorted cs ns n) (hk : k < n) {e : Ending} (h : Found cs ns (cs k) (ns k) n e) : e = .returned (.tuple #[.int .i64 k, .bool true]) := by
  obtain ⟨j, hj, t, rfl⟩ := h
  have a : ¬ j < k := by
    intro hlt
    have := t.2 j (Nat.le_refl _) (by omega)
    rw [h0.lt hlt hk] at this; cases this
  have b : ¬ k < j := by
    intro hlt
    have := t.1 k hlt
    rw [tlB_self] at this; cases this
  obtain rfl : j = k := by omega
  have : isAt cs ns (cs j) (ns j) n j = true := by rw [isAt_iff]; exact ⟨hk, rfl, rfl⟩
  rw [this]

/-- the tag just behind is placed right behind -/
theorem next_found {cs ns : Nat → Int} {n k : Nat} (h0 : Sorted cs ns n) (hk : k < n) {e : Ending} (h : Found cs ns (cs k) (ns k + 1) n e) :
    e = .returned (.tuple #[.int .i64 ((k + 1 : Nat) : Int), .bool (isAt cs ns (cs k) (ns k + 1) n (k + 1))]) := by
  obtain ⟨j, hj, t, rfl⟩ := h
  have a : ¬ j < k + 1 := by
    intro hlt
    have := t.2 j (Nat.le_refl _) (by omega)
    rw [tlB_not] at this
    rcases Nat.eq_or_lt_of_le (show j ≤ k by omega) with e | e
    · subst e; omega
    · have := h0.lt e hk; rw [tlB_iff] at this; omega
  have b : ¬ k + 1 < j := by
    intro hlt
    have := t.1 (k + 1) hlt
    have d := h0 k (by omega)
    rw [tlB_iff] at this d; omega
  obtain rfl : j = k + 1 := by omega
  rfl

end Go.Proofs.Qxb6608865a
