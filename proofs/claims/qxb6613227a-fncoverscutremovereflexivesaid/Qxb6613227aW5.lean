import Derived.Test.Qxb6613227aW4
namespace Go.Proofs.Qxb6613227a
open Go.RowKit
set_option linter.unusedSimpArgs false
set_option linter.unusedVariables false

/-! The plain laws. -/

theorem bool_iff {a b : Bool} (h : a = true ↔ b = true) : a = b := by
  cases a <;> cases b <;> simp_all

theorem badB_iff (C : Nat → Bool) (f : Nat → Nat) (n x : Nat) : badB C f n x = false ↔ (C x = true → hasN f x n = true) := by
  unfold badB
  cases C x <;> cases hasN f x n <;> simp

/-- x put into e at c -/
def ins (e : Nat → Nat) (c x i : Nat) : Nat := if i < c then e i else if i = c then x else e (i - 1)

theorem law_insert (C : Nat → Bool) (f : Nat → Nat) (n : Nat) (e : Nat → Nat) (m c x : Nat) (hc : c ≤ m) :
    covN C f n (ins e c x) (m + 1) = (covN C f n e m && (!C x || hasN f x n)) := by
  apply bool_iff
  rw [Bool.and_eq_true, covN_iff, covN_iff]
  have hx : (!C x || hasN f x n) = true ↔ badB C f n x = false := by unfold badB; cases C x <;> cases hasN f x n <;> simp
  rw [hx]
  constructor
  · intro h
    refine ⟨fun i hi => ?_, ?_⟩
    · by_cases hlt : i < c
      · have := h i (by omega); rwa [ins, if_pos hlt] at this
      · have := h (i + 1) (by omega); rw [ins, if_neg (by omega), if_neg (by omega)] at this; simpa using this
    · have := h c (by omega); rwa [ins, if_neg (by omega), if_pos rfl] at this
  · rintro ⟨h1, h2⟩ i hi
    unfold ins
    split
    · exact h1 i (by omega)
    · split
      · exact h2
      · exact h1 (i - 1) (by omega)

/-- f followed by e -/
def cat (f : Nat → Nat) (n : Nat) (e : Nat → Nat) (i : Nat) : Nat := if i < n then f i else e (i - n)

theorem law_wide (C : Nat → Bool) (f : Nat → Nat) (n : Nat) (e : Nat → Nat) (m : Nat) : covN C (cat f n e) (n + m) e m = true := by
  rw [covN_iff]
  intro i hi
  rw [badB_iff]
  intro _
  exact (hasN_iff _ _ _).2 ⟨n + i, by omega, by rw [cat, if_neg (by omega)]; congr 1; omega⟩

theorem law_self (C : Nat → Bool) (f : Nat → Nat) (n : Nat) : covN C f n f n = true := by
  rw [covN_iff]
  intro i hi
  rw [badB_iff]
  intro _
  exact (hasN_iff _ _ _).2 ⟨i, hi, rfl⟩

theorem law_cut (C : Nat → Bool) (f : Nat → Nat) (n : Nat) (e : Nat → Nat) (m c : Nat) (hc : c ≤ m) :
    covN C f n e m = (covN C f n e c && covN C f n (fun i => e (c + i)) (m - c)) := by
  apply bool_iff
  rw [Bool.and_eq_true, covN_iff, covN_iff, covN_iff]
  constructor
  · intro h
    exact ⟨fun i hi => h i (by omega), fun i hi => h (c + i) (by omega)⟩
  · rintro ⟨h1, h2⟩ i hi
    by_cases hlt : i < c
    · exact h1 i hlt
    · have := h2 (i - c) (by omega)
      rwa [show c + (i - c) = i by omega] at this

/-- the first k of f without x -/
def rst (f : Nat → Nat) (x : Nat) : Nat → List Nat
  | 0 => []
  | k + 1 => rst f x k ++ (if f k = x then [] else [f k])
theorem rst_len (f : Nat → Nat) (x : Nat) : ∀ k, (rst f x k).length ≤ k
  | 0 => Nat.le_refl _
  | k + 1 => by
    have := rst_len f x k
    unfold rst
    split <;> simp <;> omega
theorem mem_rst (f : Nat → Nat) (x y : Nat) : ∀ k, y ∈ rst f x k ↔ y ≠ x ∧ ∃ i, i < k ∧ f i = y
  | 0 => by simp [rst]
  | k + 1 => by
    rw [rst, List.mem_append, mem_rst f x y k]
    constructor
    · rintro (⟨h1, i, hi, e⟩ | h)
      · exact ⟨h1, i, by omega, e⟩
      · split at h
        · cases h
        · simp at h; subst h; exact ⟨by assumption, k, by omega, rfl⟩
    · rintro ⟨h1, i, hi, e⟩
      by_cases h : i = k
      · subst h; subst e; right; rw [if_neg h1]; simp
      · exact .inl ⟨h1, i, by omega, e⟩
theorem hasN_list (L : List Nat) (y : Nat) : hasN (fun i => L.getD i 0) y L.length = true ↔ y ∈ L := by
  rw [hasN_iff]
  constructor
  · rintro ⟨i, hi, e⟩
    rw [← e, List.getD_eq_getElem?_getD, List.getElem?_eq_getElem hi]
    exact List.getElem_mem _
  · intro h
    obtain ⟨i, hi, e⟩ := List.mem_iff_getElem.1 h
    exact ⟨i, hi, by simp only [List.getD_eq_getElem?_getD, List.getElem?_eq_getElem hi, Option.getD_some, e]⟩

theorem law_rest (C : Nat → Bool) (f : Nat → Nat) (n : Nat) (e : Nat → Nat) (m x : Nat) :
    covN C (fun i => (rst f x n).getD i 0) (rst f x n).length e m = (covN C f n e m && !(C x && hasN e x m)) := by
  apply bool_iff
  rw [Bool.and_eq_true, covN_iff, covN_iff]
  constructor
  · intro h
    refine ⟨fun i hi => ?_, ?_⟩
    · rw [badB_iff]
      intro hC
      have := (badB_iff _ _ _ _).1 (h i hi) hC
      rw [hasN_list, mem_rst] at this
      exact (hasN_iff _ _ _).2 this.2
    · cases hC : C x with
      | false => rfl
      | true =>
        cases hH : hasN e x m with
        | false => rfl
        | true =>
          obtain ⟨i, hi, e1⟩ := (hasN_iff _ _ _).1 hH
          have := (badB_iff _ _ _ _).1 (h i hi) (by rw [e1]; exact hC)
          rw [hasN_list, mem_rst] at this
          exact absurd e1 this.1
  · rintro ⟨h1, h2⟩ i hi
    rw [badB_iff]
    intro hC
    rw [hasN_list, mem_rst]
    refine ⟨fun e1 => ?_, (hasN_iff _ _ _).1 ((badB_iff _ _ _ _).1 (h1 i hi) hC)⟩
    rw [e1] at hC
    have : hasN e x m = true := (hasN_iff _ _ _).2 ⟨i, hi, e1⟩
    rw [hC, this] at h2
    cases h2

/-! Rows of the call's own with room. -/

/-- all that stood stands, but for block g -/
structure Else (g : Nat) (w W : World) : Prop where
  size : w.heap.size ≤ W.heap.size
  block : ∀ k, k < w.heap.size → k ≠ g → W.heap[k]? = w.heap[k]?
  os : W.os = w.os
  tape : W.tape = w.tape
  output : W.output = w.output
theorem Else.own {g : Nat} {w W : World} (h : Else g w W) {b n : Nat} {f : Nat → Value} (ho : Own w b n f) (hne : b ≠ g) : Own W b n f := by
  have hb := h.block b ho.lt hne
  refine ⟨Nat.lt_of_lt_of_le ho.lt h.size, fun i hi => ?_, fun i => ?_⟩
  · rw [← ho.cell i hi]; exact World.cell?_of_block (a := ⟨b, i, none⟩) hb
  · rw [← ho.thaw i]; unfold World.frozen?; simp only [hb]
theorem Else.pool {g : Nat} {w W : World} (h : Else g w W) {G N : Nat} {C : Nat → Bool} (hp : Pool w G N C) (hne : ∀ i, i < N → G + i ≠ g) : Pool W G N C := fun i hi => by
  obtain ⟨cs, t, h1, h2⟩ := hp i hi
  exact ⟨cs, t, by rw [h.block _ (hp.lt i hi) (hne i hi)]; exact h1, h2⟩
theorem Else.below {g : Nat} {w W w0 : World} (h : Else g w W) (hb : Below w0.heap.size w0 w) (hg : w0.heap.size ≤ g) : Below w0.heap.size w0 W :=
  ⟨by rw [h.os, hb.os], by rw [h.tape, hb.tape], by rw [h.output, hb.output], Nat.le_trans hb.size h.size, fun k hk => by rw [h.block k (Nat.lt_of_lt_of_le hk hb.size) (by omega), hb.block k hk]⟩
theorem Else.rd {g : Nat} {w W w0 : World} (h : Else g w W) {a : Option Addr} {n : Nat} {f : Nat → Value} (hr : Rd w0 a n f) (hb : Below w0.heap.size w0 w) (hg : w0.heap.size ≤ g) : Rd W a n f := hr.below (h.below hb hg)

/-- many more cells, within the room -/
theorem Buf.appends {P : Program} {w : World} {e : TypeId} {g cap : Nat} {xs : List Value} (h : Buf w e g cap xs) (t : TypeId) {z : Option Value} {bytes : Nat} (ht : P.underlying t = some (.slice e))
    (hinfo : (P.info? e).map (fun i => (i.zero, i.size, i.bytes)) = some (z, 1, bytes)) (hcap : cap ≤ maxLen) (n : Nat) (hn : n = xs.length) (ys : List Value) (hroom : xs.length + ys.length ≤ cap) (hv : ∀ v ∈ ys, v.oneCell' = true)
    (b o k c : Nat) (hk : k = ys.length) (hys : ∀ i v, ys[i]? = some v → w.cell? ⟨b, o + i, none⟩ = some v) :
    ∃ W, (∀ ty, (Builtin.append_ #[t, t] ty #[.slice (some ⟨g, 0, none⟩) n cap, .slice (some ⟨b, o, none⟩) k c]).run P w = .ok (.slice (some ⟨g, 0, none⟩) (n + k) cap) W) ∧
      Buf W e g cap (xs ++ ys) ∧ Else g w W := by
  subst hn hk
  have hlt := h.lt
  obtain ⟨cur, h1, h2, h3, h4⟩ := h
  obtain ⟨i, hi, hzz⟩ := Option.map_eq_some_iff.1 hinfo
  simp only [Prod.mk.injEq] at hzz
  have hown : w.ownsRow 0 e 1 (.slice (some ⟨g, 0, none⟩) xs.length cap) xs.length xs :=
    ⟨by simp, .inr ⟨g, cap, cur, rfl, Nat.zero_le _, h1, h3, hcap, by rw [h2]; simp, by simpa using h4⟩⟩
  have key := fun ty => run_append_fits (P := P) w 0 t ty e i 1 ht hi hzz.2.1 g xs.length cap xs hown ⟨b, o, none⟩ ys.length c ys (by simp)
    (by intro j u hj; rw [Addr.add_lit]; exact hys j u hj) hv hroom
  obtain ⟨W, hr, ho, hgr⟩ := key 0
  refine ⟨W, fun ty => ?_, ?_, ⟨hgr.size, fun k hk hne => hgr.block k hk (by simpa using hne), hgr.os, hgr.tape, hgr.output⟩⟩
  · exact hr
  · obtain ⟨hl, h5⟩ := ho
    rcases h5 with ⟨h5, _⟩ | ⟨g', cap', cur', h5, _, hg', hc1, hc2, hc3, hc4⟩
    · cases h5
    · simp only [Value.slice.injEq, Option.some.injEq, Addr.mk.injEq, and_true, true_and] at h5
      obtain ⟨rfl, rfl⟩ := h5
      exact ⟨cur', hg', by simpa using hc3, by simpa using hc1, by simpa using hc4⟩

/-- an append whose run is known -/
theorem wpList_append_run {P : Program} (w : World) {ops : Array Oper} {rest : List Oper} {o : Oper} {a : Act} {Q : Exit → Act → World → Prop}
    (hg : o.guard = none) (s x : Operand) (t : TypeId) (hop : o.op = Op.call { callee := Callee.builtin Builtin.append, args := #[s, x], argTypes := #[t, t] })
    (vs vx : Value) (hs : a.eval s = vs) (hx : a.eval x = vx) (r : Value) (W : World) (hrun : ∀ ty, (Builtin.append_ #[t, t] ty #[vs, vx]).run P w = .ok r W)
    (hK : wpList P ops Q rest (a.put o.dst r) W) : wpList P ops Q (o :: rest) a w := by
  refine wpList_plain hg fun K hK' => ?_
  unfold Oper.wp
  simp [execOp, hop, resolve, invoke, builtin, hs, hx, hrun, Result.andThen]
  exact hK' _ _ hK

/-- k drops as they lie in memory -/
def pvs (G : Nat) (f : Nat → Nat) (k : Nat) : List Value := (List.range k).map fun i => pv G (f i)
theorem pvs_len (G : Nat) (f : Nat → Nat) (k : Nat) : (pvs G f k).length = k := by simp [pvs]
theorem pvs_get (G : Nat) (f : Nat → Nat) (k i : Nat) (hi : i < k) : (pvs G f k)[i]? = some (pv G (f i)) := by simp [pvs, hi]
theorem pvs_one (G : Nat) (f : Nat → Nat) (k : Nat) : ∀ v ∈ pvs G f k, v.oneCell' = true := by
  intro v hv
  obtain ⟨i, _, rfl⟩ := List.mem_map.1 hv
  rfl
theorem pvs_cells {w : World} {b o N : Nat} {F : Nat → Value} (h : ∀ i, i < N → w.cell? ⟨b, o + i, none⟩ = some (F i)) (G : Nat) (f : Nat → Nat) (k : Nat) (hk : k ≤ N) (hF : ∀ i, i < k → F i = pv G (f i)) :
    ∀ i v, (pvs G f k)[i]? = some v → w.cell? ⟨b, o + i, none⟩ = some v := by
  intro i v hv
  have hi : i < k := by have := (List.getElem?_eq_some_iff.1 hv).1; rwa [pvs_len] at this
  rw [pvs_get G f k i hi] at hv
  injection hv with hv
  rw [h i (by omega), hF i hi, hv]

/-- append the drops that lie at b from o on -/
theorem Buf.more {w : World} {g cap : Nat} {xs : List Value} (h : Buf w 30 g cap xs) (hcap : cap ≤ maxLen) (n : Nat) (hn : n = xs.length) (G : Nat) (f : Nat → Nat) (k c : Nat) (hroom : n + k ≤ cap)
    (b o N : Nat) (F : Nat → Value) (hc : ∀ i, i < N → w.cell? ⟨b, o + i, none⟩ = some (F i)) (hk : k ≤ N) (hF : ∀ i, i < k → F i = pv G (f i)) (q : Nat) (hq : n + k = q) :
    ∃ W, (∀ ty, (Builtin.append_ #[26, 26] ty #[.slice (some ⟨g, 0, none⟩) n cap, .slice (some ⟨b, o, none⟩) k c]).run Try.prog w = .ok (.slice (some ⟨g, 0, none⟩) q cap) W) ∧
      Buf W 30 g cap (xs ++ pvs G f k) ∧ Else g w W := by
  subst hq
  exact h.appends 26 Try.underlying26 info30 hcap n hn (pvs G f k) (by rw [pvs_len]; omega) (pvs_one G f k) b o k c (pvs_len G f k).symm (pvs_cells hc G f k hk hF)

theorem Buf.cells {w : World} {e : TypeId} {g cap : Nat} {G : Nat} {f : Nat → Nat} {k : Nat} (h : Buf w e g cap (pvs G f k)) : ∀ i, i < k → w.cell? ⟨g, 0 + i, none⟩ = some (pv G (f i)) := by
  intro i hi
  rcases h.rd k (fun i => pv G (f i)) (pvs_len G f k) (fun i hi => pvs_get G f k i hi) with h0 | ⟨b, o, hb, _, hc⟩
  · omega
  · injection hb with hb
    injection hb with e1 e2
    subst e1; subst e2
    exact hc i hi
theorem Buf.drops {w : World} {e : TypeId} {g cap : Nat} {G : Nat} {f : Nat → Nat} {k N : Nat} (h : Buf w e g cap (pvs G f k)) (hk : k ≤ maxLen) (hN : ∀ i, i < k → f i < N) : Drops w (some ⟨g, 0, none⟩) k G f N :=
  ⟨hk, h.rd k _ (pvs_len G f k) (fun i hi => pvs_get G f k i hi), hN⟩
theorem Own.drops {w : World} {g G n : Nat} {f : Nat → Nat} {N : Nat} (h : Own w g n (fun i => pv G (f i))) (hk : n ≤ maxLen) (hN : ∀ i, i < n → f i < N) : Drops w (some ⟨g, 0, none⟩) n G f N := ⟨hk, h.rd, hN⟩
theorem ins_lt {e : Nat → Nat} {n c x N : Nat} (h : ∀ i, i < n → e i < N) (hx : x < N) (hc : c ≤ n) : ∀ i, i < n + 1 → ins e c x i < N := by
  intro i hi
  unfold ins
  split
  · exact h i (by omega)
  · split
    · exact hx
    · exact h (i - 1) (by omega)
theorem cat_lt {f e : Nat → Nat} {n m N : Nat} (h : ∀ i, i < n → f i < N) (h2 : ∀ i, i < m → e i < N) : ∀ i, i < n + m → cat f n e i < N := by
  intro i hi
  unfold cat
  split
  · exact h i (by omega)
  · exact h2 (i - n) (by omega)

theorem ins_list (G : Nat) (e : Nat → Nat) (n c x : Nat) (hc : c ≤ n) : pvs G e c ++ pvs G (fun _ => x) 1 ++ pvs G (fun i => e (c + i)) (n - c) = pvs G (ins e c x) (n + 1) := by
  apply List.ext_getElem?
  intro i
  by_cases hi : i < n + 1
  · rw [pvs_get _ _ _ _ hi]
    by_cases h1 : i < c
    · rw [List.getElem?_append_left (by simp [pvs_len]; omega), List.getElem?_append_left (by simp [pvs_len]; omega), pvs_get _ _ _ _ h1, ins, if_pos h1]
    · by_cases h2 : i = c
      · subst h2
        rw [List.getElem?_append_left (by simp [pvs_len]), List.getElem?_append_right (by simp [pvs_len]), pvs_len, pvs_get _ _ _ _ (by omega), ins, if_neg h1, if_pos rfl]
      · rw [List.getElem?_append_right (by simp [pvs_len]; omega)]
        simp only [List.length_append, pvs_len]
        rw [pvs_get _ _ _ _ (by omega), ins, if_neg h1, if_neg h2]
        congr 3
        omega
  · rw [List.getElem?_eq_none (by simp [pvs_len]; omega), List.getElem?_eq_none (by simp [pvs_len]; omega)]
theorem cat_list (G : Nat) (f : Nat → Nat) (n : Nat) (e : Nat → Nat) (m : Nat) : pvs G f n ++ pvs G e m = pvs G (cat f n e) (n + m) := by
  apply List.ext_getElem?
  intro i
  by_cases hi : i < n + m
  · rw [pvs_get _ _ _ _ hi]
    by_cases h1 : i < n
    · rw [List.getElem?_append_left (by simp [pvs_len]; omega), pvs_get _ _ _ _ h1, cat, if_pos h1]
    · rw [List.getElem?_append_right (by simp [pvs_len]; omega), pvs_len, pvs_get _ _ _ _ (by omega), cat, if_neg h1]
  · rw [List.getElem?_eq_none (by simp [pvs_len]; omega), List.getElem?_eq_none (by simp [pvs_len]; omega)]

end Go.Proofs.Qxb6613227a
