import Derived.Lib.Bytealg
namespace Go.Proofs.Qxb6608767a
open Go

/-! The plain law: counting, places, comparisons. No program in sight. -/

theorem cmpL_zero : ∀ {a b : List UInt8}, Lib.compareBytes a b = 0 → a = b
  | [], [], _ => rfl
  | [], _ :: _, h => by simp [Lib.compareBytes] at h
  | _ :: _, [], h => by simp [Lib.compareBytes] at h
  | x :: a, y :: b, h => by
    unfold Lib.compareBytes at h
    by_cases h1 : x < y
    · simp [h1] at h
    · by_cases h2 : y < x
      · simp [h1, h2] at h
      · simp only [h1, h2, if_false] at h
        have e : x = y := UInt8.le_antisymm (UInt8.not_lt.1 h2) (UInt8.not_lt.1 h1)
        rw [e, cmpL_zero h]

theorem cmpL_refl : ∀ (a : List UInt8), Lib.compareBytes a a = 0
  | [] => rfl
  | x :: a => by simp [Lib.compareBytes, UInt8.lt_irrefl, cmpL_refl a]

theorem cmpL_trans : ∀ {a b c : List UInt8}, Lib.compareBytes a b < 0 → Lib.compareBytes b c < 0 → Lib.compareBytes a c < 0
  | [], [], _, h, _ => by simp [Lib.compareBytes] at h
  | _, _ :: _, [], _, h => by simp [Lib.compareBytes] at h
  | _ :: _, [], _, h, _ => by simp [Lib.compareBytes] at h
  | [], _ :: _, _ :: _, _, _ => by simp [Lib.compareBytes]
  | x :: a, y :: b, z :: c, h, g => by
    unfold Lib.compareBytes at h g ⊢
    by_cases h1 : x < y
    · by_cases g1 : y < z
      · simp [UInt8.lt_trans h1 g1]
      · by_cases g2 : z < y
        · simp [g1, g2] at g
        · have e : y = z := UInt8.le_antisymm (UInt8.not_lt.1 g2) (UInt8.not_lt.1 g1)
          subst e; simp [h1]
    · by_cases h2 : y < x
      · simp [h1, h2] at h
      · have e : x = y := UInt8.le_antisymm (UInt8.not_lt.1 h2) (UInt8.not_lt.1 h1)
        subst e
        simp only [h1, if_false] at h
        by_cases g1 : x < z
        · simp [g1]
        · by_cases g2 : z < x
          · simp [g1, g2] at g
          · simp only [g1, g2, if_false] at g ⊢
            exact cmpL_trans h g

def cmpB (a b : ByteArray) : Int := Lib.compareBytes a.data.toList b.data.toList

theorem cmpB_zero {a b : ByteArray} (h : cmpB a b = 0) : a = b := by
  have := cmpL_zero h
  cases a; cases b; simp_all [Array.toList_inj]
theorem cmpB_refl (a : ByteArray) : cmpB a a = 0 := cmpL_refl _
theorem cmpB_trans {a b c : ByteArray} (h : cmpB a b < 0) (g : cmpB b c < 0) : cmpB a c < 0 := cmpL_trans h g
theorem cmpB_lt_eq {a b c : ByteArray} (h : cmpB a b < 0) (g : cmpB b c = 0) : cmpB a c < 0 := by
  rw [← cmpB_zero g]; exact h

/-- neighbours ascend, so all do -/
theorem asc_all (f : Nat → ByteArray) (n : Nat) (h : ∀ i, i + 1 < n → cmpB (f i) (f (i + 1)) < 0) :
    ∀ d i, i + d + 1 < n → cmpB (f i) (f (i + d + 1)) < 0
  | 0, i, hi => h i hi
  | d + 1, i, hi => cmpB_trans (asc_all f n h d i (by omega)) (by have := h (i + d + 1) (by omega); exact this)

theorem asc_lt (f : Nat → ByteArray) (n : Nat) (h : ∀ i, i + 1 < n → cmpB (f i) (f (i + 1)) < 0) (i j : Nat) (hij : i < j) (hj : j < n) : cmpB (f i) (f j) < 0 := by
  have := asc_all f n h (j - i - 1) i (by omega)
  rwa [show i + (j - i - 1) + 1 = j by omega] at this

/-- how many of the first n places answer yes -/
def cntB (p : Nat → Bool) : Nat → Nat
  | 0 => 0
  | n + 1 => cntB p n + if p n then 1 else 0
/-- does one of the first n places answer yes -/
def anyB (p : Nat → Bool) : Nat → Bool
  | 0 => false
  | n + 1 => anyB p n || p n

theorem cntB_le (p : Nat → Bool) : ∀ n, cntB p n ≤ n
  | 0 => Nat.le_refl _
  | n + 1 => by have := cntB_le p n; unfold cntB; split <;> omega

theorem cntB_eq (p : Nat → Bool) : ∀ n, cntB p n = (List.range n).countP p
  | 0 => rfl
  | n + 1 => by rw [List.range_succ, List.countP_append, ← cntB_eq p n, cntB]; simp [List.countP_cons]

theorem anyB_iff (p : Nat → Bool) : ∀ n, anyB p n = true ↔ ∃ i, i < n ∧ p i = true
  | 0 => by simp [anyB]
  | n + 1 => by
    rw [anyB, Bool.or_eq_true, anyB_iff p n]
    constructor
    · rintro (⟨i, h, g⟩ | g)
      · exact ⟨i, by omega, g⟩
      · exact ⟨n, by omega, g⟩
    · rintro ⟨i, h, g⟩
      by_cases e : i = n
      · subst e; exact .inr g
      · exact .inl ⟨i, by omega, g⟩

/-- the places split at k: k is the count -/
theorem cntB_split (p : Nat → Bool) (k : Nat) (h1 : ∀ i, i < k → p i = true) : ∀ n, k ≤ n → (∀ i, k ≤ i → i < n → p i = false) → cntB p n = k
  | 0, hk, _ => by have : k = 0 := by omega
                   subst this; rfl
  | n + 1, hk, h2 => by
    unfold cntB
    by_cases e : k = n + 1
    · subst e
      rw [h1 n (by omega)]
      have : cntB p n = n := cntB_split p n (fun i hi => h1 i (by omega)) n (Nat.le_refl _) (fun i a b => by omega)
      simp [this]
    · rw [h2 n (by omega) (by omega), cntB_split p k h1 n (by omega) (fun i a b => h2 i a (by omega))]; simp

theorem surj_of_inj : ∀ (n : Nat) (π : Nat → Nat), (∀ k, k < n → π k < n) → (∀ i j, i < n → j < n → π i = π j → i = j) → ∀ m, m < n → ∃ k, k < n ∧ π k = m
  | 0, _, _, _, m, hm => by omega
  | n + 1, π, hb, hi, m, hm => by
    have ih := surj_of_inj n (fun k => if π k = n then π n else π k)
      (fun k hk => by
        have a := hb k (by omega)
        have b := hb n (by omega)
        by_cases e : π k = n
        · simp only [e, if_true]
          have : π n ≠ n := fun e2 => by have := hi k n (by omega) (by omega) (by rw [e, e2]); omega
          omega
        · simp only [e, if_false]; omega)
      (fun i j h1 h2 e => by
        by_cases a : π i = n <;> by_cases b : π j = n
        · exact hi i j (by omega) (by omega) (by rw [a, b])
        · simp only [a, b, if_true, if_false] at e
          have := hi n j (by omega) (by omega) e; omega
        · simp only [a, b, if_true, if_false] at e
          have := hi i n (by omega) (by omega) e; omega
        · simp only [a, b, if_false] at e
          exact hi i j (by omega) (by omega) e)
    by_cases e : π n = m
    · exact ⟨n, by omega, e⟩
    · by_cases em : m = n
      · subst em
        obtain ⟨k, hk, h⟩ := ih (π m) (by have := hb m (by omega); omega)
        by_cases a : π k = m
        · exact ⟨k, by omega, a⟩
        · simp only [a, if_false] at h
          have := hi k m (by omega) (by omega) h; omega
      · obtain ⟨k, hk, h⟩ := ih m (by omega)
        by_cases a : π k = n
        · simp only [a, if_true] at h; exact absurd h e
        · simp only [a, if_false] at h; exact ⟨k, by omega, h⟩

theorem nodup_map (π : Nat → Nat) : ∀ (l : List Nat), l.Nodup → (∀ a b, a ∈ l → b ∈ l → π a = π b → a = b) → (l.map π).Nodup
  | [], _, _ => by simp
  | x :: l, h, hi => by
    rw [List.map_cons, List.nodup_cons]
    rw [List.nodup_cons] at h
    refine ⟨fun hm => ?_, nodup_map π l h.2 (fun a b ha hb => hi a b (List.mem_cons_of_mem _ ha) (List.mem_cons_of_mem _ hb))⟩
    obtain ⟨y, hy, e⟩ := List.mem_map.1 hm
    have := hi y x (List.mem_cons_of_mem _ hy) (List.mem_cons_self ..) e
    subst this
    exact h.1 hy

theorem range_perm (n : Nat) (π : Nat → Nat) (hb : ∀ k, k < n → π k < n) (hi : ∀ i j, i < n → j < n → π i = π j → i = j) :
    ((List.range n).map π).Perm (List.range n) := by
  refine (List.perm_ext_iff_of_nodup ?_ List.nodup_range).2 ?_
  · exact nodup_map π _ List.nodup_range (fun a b ha hb' e => hi a b (List.mem_range.1 ha) (List.mem_range.1 hb') e)
  · intro m
    rw [List.mem_map, List.mem_range]
    constructor
    · rintro ⟨k, hk, rfl⟩; exact hb k (List.mem_range.1 hk)
    · intro hm
      obtain ⟨k, hk, e⟩ := surj_of_inj n π hb hi m hm
      exact ⟨k, List.mem_range.2 hk, e⟩

theorem cntB_perm (p : Nat → Bool) (n : Nat) (π : Nat → Nat) (hb : ∀ k, k < n → π k < n) (hi : ∀ i j, i < n → j < n → π i = π j → i = j) :
    cntB (fun k => p (π k)) n = cntB p n := by
  rw [cntB_eq, cntB_eq, ← (range_perm n π hb hi).countP_eq p, List.countP_map]
  rfl

theorem anyB_perm (p : Nat → Bool) (n : Nat) (π : Nat → Nat) (hb : ∀ k, k < n → π k < n) (hi : ∀ i j, i < n → j < n → π i = π j → i = j) :
    anyB (fun k => p (π k)) n = anyB p n := by
  rw [Bool.eq_iff_iff, anyB_iff, anyB_iff]
  constructor
  · rintro ⟨k, hk, h⟩; exact ⟨π k, hb k hk, h⟩
  · rintro ⟨m, hm, h⟩
    obtain ⟨k, hk, e⟩ := surj_of_inj n π hb hi m hm
    exact ⟨k, hk, by rw [e]; exact h⟩

/-- what a binary search over ascending names comes to: the count below, and whether it is there -/
theorem search_law (f : Nat → ByteArray) (q : ByteArray) (n k : Nat) (hk : k ≤ n) (hasc : ∀ i, i + 1 < n → cmpB (f i) (f (i + 1)) < 0)
    (h1 : ∀ i, i < k → cmpB (f i) q < 0) (h2 : ∀ i, k ≤ i → i < n → ¬ cmpB (f i) q < 0) :
    k = cntB (fun i => decide (cmpB (f i) q < 0)) n ∧ (decide (k < n) && (cmpB (f k) q == 0)) = anyB (fun i => cmpB (f i) q == 0) n := by
  refine ⟨(cntB_split _ k (fun i hi => by simpa using h1 i hi) n hk (fun i a b => by simpa using h2 i a b)).symm, ?_⟩
  rw [Bool.eq_iff_iff, anyB_iff, Bool.and_eq_true]
  simp only [decide_eq_true_eq, beq_iff_eq]
  constructor
  · rintro ⟨a, b⟩; exact ⟨k, a, b⟩
  · rintro ⟨i, hi, e⟩
    have a : k ≤ i := by
      refine Nat.le_of_not_lt fun hlt => ?_
      have := h1 i hlt; omega
    have b : i = k := by
      refine Nat.le_antisymm (Nat.le_of_not_lt fun hlt => ?_) a
      exact h2 k (Nat.le_refl _) (by omega) (cmpB_lt_eq (asc_lt f n hasc k i hlt hi) e)
    subst b
    exact ⟨hi, e⟩

/-- a test that holds at one place holds at all before: what the binary search wants -/
theorem search_mono (f : Nat → ByteArray) (q : ByteArray) (n : Nat) (hasc : ∀ i, i + 1 < n → cmpB (f i) (f (i + 1)) < 0) :
    ∀ i j, i ≤ j → j < n → cmpB (f j) q < 0 → cmpB (f i) q < 0 := by
  intro i j hij hj h
  rcases Nat.eq_or_lt_of_le hij with e | e
  · subst e; exact h
  · exact cmpB_trans (asc_lt f n hasc i j e hj) h

/-- how many of the first n names sort before q; whether one of them is q -/
def lessN (f : Nat → ByteArray) (q : ByteArray) (n : Nat) : Nat := cntB (fun i => decide (cmpB (f i) q < 0)) n
def hasN (f : Nat → ByteArray) (q : ByteArray) (n : Nat) : Bool := anyB (fun i => cmpB (f i) q == 0) n

theorem lessN_le (f : Nat → ByteArray) (q : ByteArray) (n : Nat) : lessN f q n ≤ n := cntB_le _ _
theorem lessN_zero (f : Nat → ByteArray) (q : ByteArray) : lessN f q 0 = 0 := rfl
theorem hasN_zero (f : Nat → ByteArray) (q : ByteArray) : hasN f q 0 = false := rfl
theorem lessN_lt {f : Nat → ByteArray} {q : ByteArray} {n : Nat} (h : cmpB (f n) q < 0) : lessN f q (n + 1) = lessN f q n + 1 := by simp [lessN, cntB, h]
theorem lessN_ge {f : Nat → ByteArray} {q : ByteArray} {n : Nat} (h : ¬ cmpB (f n) q < 0) : lessN f q (n + 1) = lessN f q n := by
  unfold lessN; rw [cntB]; simp [h]
theorem hasN_eq {f : Nat → ByteArray} {q : ByteArray} {n : Nat} (h : cmpB (f n) q = 0) : hasN f q (n + 1) = true := by simp [hasN, anyB, h]
theorem hasN_ne {f : Nat → ByteArray} {q : ByteArray} {n : Nat} (h : ¬ cmpB (f n) q = 0) : hasN f q (n + 1) = hasN f q n := by simp [hasN, anyB, h]

theorem lessN_perm (f : Nat → ByteArray) (q : ByteArray) (n : Nat) (π : Nat → Nat) (hb : ∀ k, k < n → π k < n) (hi : ∀ i j, i < n → j < n → π i = π j → i = j) :
    lessN (fun k => f (π k)) q n = lessN f q n := cntB_perm (fun i => decide (cmpB (f i) q < 0)) n π hb hi
theorem hasN_perm (f : Nat → ByteArray) (q : ByteArray) (n : Nat) (π : Nat → Nat) (hb : ∀ k, k < n → π k < n) (hi : ∀ i j, i < n → j < n → π i = π j → i = j) :
    hasN (fun k => f (π k)) q n = hasN f q n := anyB_perm (fun i => cmpB (f i) q == 0) n π hb hi

end Go.Proofs.Qxb6608767a
