import Derived.Test.Qxb6609005aMem
namespace Go.Proofs.Qxb6609005a
open Go.RowKit
set_option linter.unusedSimpArgs false
set_option linter.unusedVariables false

/-! Clocks as plain data: what they count, when one is at most another; names and their places. -/

structure Clk where
  own : Int
  n : Int
  len : Nat
  hs : Nat → Int
  cn : Nat → Int

/-- the count of host i among the first k entries: the last that names it -/
def look (hs cn : Nat → Int) (i : Int) : Nat → Int
  | 0 => 0
  | k + 1 => if hs k = i then cn k else look hs cn i k

def Clk.cnt (c : Clk) (i : Int) : Int := if i = c.own then c.n else look c.hs c.cn i c.len

/-- the zero clock -/
def zeroClk : Clk := ⟨0, 0, 0, fun _ => 0, fun _ => 0⟩

/-- what holds of a clock of a log of k hosts -/
structure Clk.Ok (c : Clk) (k : Nat) : Prop where
  own0 : 0 ≤ c.own
  ownk : c.own < k
  n0 : 0 ≤ c.n
  hs0 : ∀ j, j < c.len → 0 ≤ c.hs j
  hsk : ∀ j, j < c.len → c.hs j < k
  hne : ∀ j, j < c.len → c.hs j ≠ c.own
  pos : ∀ j, j < c.len → 0 < c.cn j
  asc : ∀ j, j + 1 < c.len → c.hs j < c.hs (j + 1)

/-- a clock of the log, or the zero clock -/
def Clk.Good (c : Clk) (k : Nat) : Prop := c = zeroClk ∨ c.Ok k

/-- every number fits 32 bits -/
structure Clk.Fits (c : Clk) : Prop where
  own : 0 ≤ c.own ∧ c.own < 4294967296
  n : 0 ≤ c.n ∧ c.n < 4294967296
  hs : ∀ j, j < c.len → 0 ≤ c.hs j ∧ c.hs j < 4294967296
  cn : ∀ j, j < c.len → 0 ≤ c.cn j ∧ c.cn j < 4294967296

theorem look_none {hs cn : Nat → Int} {i : Int} : ∀ {k : Nat}, (∀ j, j < k → hs j ≠ i) → look hs cn i k = 0
  | 0, _ => rfl
  | k + 1, h => by rw [look, if_neg (h k (by omega)), look_none (fun j hj => h j (by omega))]

theorem look_at {hs cn : Nat → Int} {i : Int} {j : Nat} (hj : hs j = i) : ∀ {k : Nat}, j < k → (∀ t, j < t → t < k → hs t ≠ i) → look hs cn i k = cn j
  | 0, h, _ => by omega
  | k + 1, h, hn => by
    by_cases e : k = j
    · subst e; rw [look, if_pos hj]
    · rw [look, if_neg (hn k (by omega) (by omega)), look_at hj (by omega) (fun t a b => hn t a (by omega))]

theorem look_range {hs cn : Nat → Int} {i : Int} {B : Int} (hB : 0 < B) : ∀ {k : Nat}, (∀ j, j < k → 0 ≤ cn j ∧ cn j < B) → 0 ≤ look hs cn i k ∧ look hs cn i k < B
  | 0, _ => by simp [look]; omega
  | k + 1, h => by
    rw [look]
    split
    · exact h k (by omega)
    · exact look_range hB (fun j hj => h j (by omega))

theorem Clk.cnt_range {c : Clk} (h : c.Fits) (i : Int) : 0 ≤ c.cnt i ∧ c.cnt i < 4294967296 := by
  unfold Clk.cnt
  split
  · exact h.n
  · exact look_range (by omega) h.cn

theorem asc_far {hs : Nat → Int} {n : Nat} (h : ∀ j, j + 1 < n → hs j < hs (j + 1)) : ∀ d i, i + d + 1 < n → hs i < hs (i + d + 1)
  | 0, i, hi => h i hi
  | d + 1, i, hi => by have := asc_far h d i (by omega); have := h (i + d + 1) (by omega); rw [show i + (d + 1) + 1 = i + d + 1 + 1 by omega]; omega
theorem asc_lt {hs : Nat → Int} {n : Nat} (h : ∀ j, j + 1 < n → hs j < hs (j + 1)) {i j : Nat} (hij : i < j) (hj : j < n) : hs i < hs j := by
  have := asc_far h (j - i - 1) i (by omega)
  rwa [show i + (j - i - 1) + 1 = j by omega] at this

theorem look_asc {hs cn : Nat → Int} {n j : Nat} (h : ∀ j, j + 1 < n → hs j < hs (j + 1)) (hj : j < n) : look hs cn (hs j) n = cn j :=
  look_at rfl hj (fun t a b => by have := asc_lt h a b; omega)

/-- c counts no host above d: as AtMost has it -/
def Clk.Most (c d : Clk) : Prop := c.n ≤ d.cnt c.own ∧ ∀ j, j < c.len → c.cn j ≤ d.cnt (c.hs j)
/-- .. host by host -/
def domN (c d : Clk) : Nat → Bool
  | 0 => true
  | k + 1 => domN c d k && decide (c.cnt k ≤ d.cnt k)

theorem domN_iff (c d : Clk) : ∀ k, domN c d k = true ↔ ∀ i : Nat, i < k → c.cnt i ≤ d.cnt i
  | 0 => by simp [domN]
  | k + 1 => by
    rw [domN, Bool.and_eq_true, domN_iff c d k, decide_eq_true_eq]
    constructor
    · rintro ⟨h1, h2⟩ i hi
      by_cases e : i = k
      · subst e; exact h2
      · exact h1 i (by omega)
    · intro h; exact ⟨fun i hi => h i (by omega), h k (by omega)⟩

theorem zeroClk_cnt (i : Int) : zeroClk.cnt i = 0 := by simp [Clk.cnt, zeroClk, look]

theorem most_iff {c d : Clk} {k : Nat} (hc : c.Good k) (hd : d.Fits) : c.Most d ↔ domN c d k = true := by
  rw [domN_iff]
  rcases hc with rfl | hc
  · constructor
    · intro _ i _; rw [zeroClk_cnt]; exact (Clk.cnt_range hd _).1
    · intro _; exact ⟨(Clk.cnt_range hd _).1, fun j hj => absurd hj (Nat.not_lt_zero _)⟩
  · constructor
    · rintro ⟨h1, h2⟩ i hi
      by_cases e : (i : Int) = c.own
      · rw [e]; unfold Clk.cnt at *; rw [if_pos rfl]; exact h1
      · by_cases ex : ∃ j, j < c.len ∧ c.hs j = (i : Int)
        · obtain ⟨j, hj, hji⟩ := ex
          have : c.cnt i = c.cn j := by
            unfold Clk.cnt; rw [if_neg e, ← hji]; exact look_asc hc.asc hj
          rw [this, ← hji]; exact h2 j hj
        · have : c.cnt i = 0 := by
            unfold Clk.cnt; rw [if_neg e]; exact look_none (fun j hj hji => ex ⟨j, hj, hji⟩)
          rw [this]; exact (Clk.cnt_range hd _).1
    · intro h
      have a0 := hc.own0
      have a1 := hc.ownk
      refine ⟨?_, fun j hj => ?_⟩
      · have := h c.own.toNat (by omega)
        rw [Int.toNat_of_nonneg a0] at this
        have e : c.cnt c.own = c.n := by unfold Clk.cnt; rw [if_pos rfl]
        rwa [e] at this
      · have b0 := hc.hs0 j hj
        have b1 := hc.hsk j hj
        have := h (c.hs j).toNat (by omega)
        rw [Int.toNat_of_nonneg b0] at this
        have e : c.cnt (c.hs j) = c.cn j := by unfold Clk.cnt; rw [if_neg (hc.hne j hj)]; exact look_asc hc.asc hj
        rwa [e] at this

/-! names -/

/-- the place of s among the first k names: the last that is s -/
def idxOf (nm : Nat → ByteArray) (s : ByteArray) : Nat → Option Nat
  | 0 => none
  | k + 1 => if nm k = s then some k else idxOf nm s k

theorem idxOf_some {nm : Nat → ByteArray} {s : ByteArray} : ∀ {k i : Nat}, idxOf nm s k = some i → i < k ∧ nm i = s
  | 0, i, h => by cases h
  | k + 1, i, h => by
    rw [idxOf] at h
    split at h
    · next e => cases h; exact ⟨by omega, e⟩
    · obtain ⟨a, b⟩ := idxOf_some h; exact ⟨by omega, b⟩
theorem idxOf_none {nm : Nat → ByteArray} {s : ByteArray} : ∀ {k : Nat}, idxOf nm s k = none → ∀ i, i < k → nm i ≠ s
  | 0, _, i, hi => by omega
  | k + 1, h, i, hi => by
    rw [idxOf] at h
    split at h
    · cases h
    · next e =>
      by_cases ei : i = k
      · subst ei; exact e
      · exact idxOf_none h i (by omega)
theorem idxOf_none_of {nm : Nat → ByteArray} {s : ByteArray} : ∀ {k : Nat}, (∀ i, i < k → nm i ≠ s) → idxOf nm s k = none
  | 0, _ => rfl
  | k + 1, h => by rw [idxOf, if_neg (h k (by omega)), idxOf_none_of (fun i hi => h i (by omega))]
/-- no name twice -/
def Distinct (nm : Nat → ByteArray) (n : Nat) : Prop := ∀ i j, i < n → j < n → nm i = nm j → i = j
theorem idxOf_at {nm : Nat → ByteArray} {s : ByteArray} {n i : Nat} (hd : Distinct nm n) (hi : i < n) (e : nm i = s) : idxOf nm s n = some i := by
  cases h : idxOf nm s n with
  | none => exact absurd e (idxOf_none h i hi)
  | some j => obtain ⟨a, b⟩ := idxOf_some h; rw [hd j i a hi (by rw [b, e])]

/-- a clock's count of the host named s -/
def cH (nm : Nat → ByteArray) (n : Nat) (c : Clk) (s : ByteArray) : Int :=
  match idxOf nm s n with
  | some i => c.cnt i
  | none => 0
theorem cH_some {nm : Nat → ByteArray} {n : Nat} {c : Clk} {s : ByteArray} {i : Nat} (h : idxOf nm s n = some i) : cH nm n c s = c.cnt i := by rw [cH, h]
theorem cH_none {nm : Nat → ByteArray} {n : Nat} {c : Clk} {s : ByteArray} (h : idxOf nm s n = none) : cH nm n c s = 0 := by rw [cH, h]
theorem cH_zero (nm : Nat → ByteArray) (n : Nat) (s : ByteArray) : cH nm n zeroClk s = 0 := by
  unfold cH; split
  · exact zeroClk_cnt _
  · rfl

/-- what knows(y, x) comes to -/
def knB (nm : Nat → ByteArray) (n : Nat) (hy : ByteArray) (cy cx : Clk) : Bool := domN cx cy n && decide (cH nm n cx hy < cH nm n cy hy)

theorem knB_trans {nm : Nat → ByteArray} {n : Nat} {hz hy : ByteArray} {cz cy cx : Clk} (h1 : knB nm n hz cz cy = true) (h2 : knB nm n hy cy cx = true) : knB nm n hz cz cx = true := by
  unfold knB at *
  rw [Bool.and_eq_true, domN_iff, decide_eq_true_eq] at *
  obtain ⟨a1, b1⟩ := h1
  obtain ⟨a2, b2⟩ := h2
  refine ⟨fun i hi => by have := a1 i hi; have := a2 i hi; omega, ?_⟩
  cases h : idxOf nm hz n with
  | none => rw [cH_none h, cH_none h] at b1; omega
  | some i =>
    rw [cH_some h, cH_some h] at *
    have := a2 i (idxOf_some h).1
    omega

end Go.Proofs.Qxb6609005a
