import Derived.Test.Qxb6609005aW2
namespace Go.Proofs.Qxb6609005a
open Go.RowKit Go.WideMaps Go.Maps
set_option linter.unusedSimpArgs false
set_option linter.unusedVariables false

/-- where a clock's log lies: nowhere (the zero clock), or in a block with the map of names -/
def HostsAt (w : World) (hp : Option Addr) (bm : Nat) : Prop := hp = none ∨ ∃ hb, hp = some ⟨hb, 0, none⟩ ∧ hb < w.heap.size ∧ w.cell? ⟨hb, 1, none⟩ = some (.map (some bm))
theorem HostsAt.below {w w' : World} {hp : Option Addr} {bm : Nat} (h : HostsAt w hp bm) (k : Below w.heap.size w w') : HostsAt w' hp bm := by
  rcases h with h | ⟨hb, h1, h2, h3⟩
  · exact .inl h
  · exact .inr ⟨hb, h1, Nat.lt_of_lt_of_le h2 k.size, by rw [k.cell h2]; exact h3⟩

set_option maxHeartbeats 400000 in
theorem isZero_any (hp : Option Addr) (own nn : Int) (ka : Option Addr) (kl kc : Nat) (w : World) :
    Calls Try.prog 50 #[.agg #[.pointer hp, .int .u32 own, .int .u32 nn, .slice ka kl kc]] w fun e w' => e = .returned (.bool hp.isNone) ∧ ∃ o, w' = w.alloc o := by
  cases hp with
  | none =>
    go_enter Try.func50, Try.ntmps50
    go_wp2
    go_ret
    exact ⟨rfl, _, rfl⟩
  | some x =>
    go_enter Try.func50, Try.ntmps50
    go_wp2
    go_ret
    exact ⟨rfl, _, rfl⟩

set_option maxHeartbeats 400000 in
theorem numberOf_zero (s : ByteArray) (own nn : Int) (ka : Option Addr) (kl kc : Nat) (w : World) :
    Calls Try.prog 42 #[.agg #[.pointer none, .int .u32 own, .int .u32 nn, .slice ka kl kc], .string s] w fun e w' => e = .returned (.tuple #[.int .u32 0, .bool false]) ∧ Below w.heap.size w w' := by
  go_enter Try.func42, Try.ntmps42
  go_wp2_with (go_at_call 50; refine (isZero_any _ _ _ _ _ _ _).mono ?_; rintro e w' ⟨rfl, o, rfl⟩)
  go_ret2
  exact ⟨rfl, ((Below.refl _ _).alloc (Nat.le_refl _) _).alloc (by simp) _⟩

theorem lit_inj {a b : Int} (h : (DataW.lit (.int .u32 a) : DataW Unit) = .lit (.int .u32 b)) : a = b := by
  have h2 : Lit.int .u32 a = .int .u32 b := by injection h
  injection h2

/-- the number of the host named s, and whether there is one -/
def NumFound (nm : Nat → ByteArray) (s : ByteArray) (n : Nat) (e : Ending) : Prop :=
  (∃ i, idxOf nm s n = some i ∧ e = .returned (.tuple #[.int .u32 (i : Nat), .bool true])) ∨ (idxOf nm s n = none ∧ ∃ c, e = .returned (.tuple #[.int .u32 c, .bool false]))

set_option maxHeartbeats 400000 in
theorem numberOf_some (hb bm n : Nat) (nm : Nat → ByteArray) (s : ByteArray) (own nn : Int) (ka : Option Addr) (kl kc : Nat) (w : World) (hlt : hb < w.heap.size) (hc : w.cell? ⟨hb, 1, none⟩ = some (.map (some bm))) (hM : NumMap w bm nm n) (hs : s.size ≤ maxLen) :
    Calls Try.prog 42 #[.agg #[.pointer (some ⟨hb, 0, none⟩), .int .u32 own, .int .u32 nn, .slice ka kl kc], .string s] w fun e w' =>
      NumFound nm s n e ∧ Below w.heap.size w w' := by
  obtain ⟨D, hown, hD⟩ := hM
  have OW : Hid (∀ x y, ((w.alloc x).alloc y).ownsMap Try.prog 9 (plainElem Try.prog 24) bm n D) := fun x y => (hown.alloc x).alloc y
  have HD : Hid (MapIs D nm n) := hD
  clear hown hD
  have hkey : keyOf Try.prog 9 (.string s) = some (.string s.data.toList) := keyOf_string_mk Try.underlying9 hs
  have hlt1 : hb < w.heap.size + 1 := by omega
  have HB : Hid (∀ x y, Below w.heap.size w ((w.alloc x).alloc y)) := fun x y => ((Below.refl _ _).alloc (Nat.le_refl _) _).alloc (by simp) _
  go_enter Try.func42, Try.ntmps42
  go_wp2_with (first
    | (go_at_call 50; refine (isZero_any _ _ _ _ _ _ _).mono ?_; rintro e w' ⟨rfl, o, rfl⟩)
    | (at_lookup; refine wpList_lookup_own_ok_int _ rfl _ _ 33 rfl 9 24 .u32 law9 Try.underlying33 Try.underlying24 (zero24 _) bm n D rfl (OW.out _ _) _ _ rfl hkey ?_; intro c hat hwc; have HC : Hid (D.atKey (.string s.data.toList) (.lit (.int .u32 0)) = .lit (.int .u32 c)) := hat; clear hat hwc))
  cases hi : idxOf nm s n with
  | some i =>
    obtain ⟨h1, h2⟩ := (HD.out.2 s).1 i hi
    have hc : c = (i : Nat) := lit_inj (HC.out.symm.trans h1)
    subst hc
    have HI : Hid (idxOf nm s n = some i) := hi
    clear h1 hi
    go_wp2
    go_ret2
    exact ⟨.inl ⟨i, HI.out, by simp [h2]⟩, HB.out _ _⟩
  | none =>
    have h2 := (HD.out.2 s).2 hi
    have HI : Hid (idxOf nm s n = none) := hi
    clear hi
    go_wp2
    go_ret2
    exact ⟨.inr ⟨HI.out, c, by simp [h2]⟩, HB.out _ _⟩

/-- the state of a search: all below lo name hosts before i, none from hi on does -/
def Span (hs : Nat → Int) (i : Int) (n lo hi : Nat) : Prop := (∀ t, t < lo → hs t < i) ∧ (∀ t, hi ≤ t → t < n → ¬ hs t < i)

theorem Span.up {hs : Nat → Int} {i : Int} {n lo hi h : Nat} (s : Span hs i n lo hi) (asc : ∀ j, j + 1 < n → hs j < hs (j + 1)) (hh : h < n) (d : hs h < i) : Span hs i n (h + 1) hi :=
  ⟨fun t ht => by
    rcases Nat.eq_or_lt_of_le (show t ≤ h by omega) with e | e
    · subst e; exact d
    · have := asc_lt asc e hh; omega, s.2⟩
theorem Span.down {hs : Nat → Int} {i : Int} {n lo hi h : Nat} (s : Span hs i n lo hi) (asc : ∀ j, j + 1 < n → hs j < hs (j + 1)) (d : ¬ hs h < i) : Span hs i n lo h :=
  ⟨s.1, fun t ht hn => by
    rcases Nat.eq_or_lt_of_le ht with e | e
    · subst e; exact d
    · have := asc_lt asc e hn; omega⟩

/-- what the search comes to -/
theorem Span.look {hs cn : Nat → Int} {i : Int} {n k : Nat} (s : Span hs i n k k) (asc : ∀ j, j + 1 < n → hs j < hs (j + 1)) :
    look hs cn i n = if k < n ∧ hs k = i then cn k else 0 := by
  by_cases h : k < n ∧ hs k = i
  · rw [if_pos h, ← h.2]; exact look_asc asc h.1
  · rw [if_neg h]
    refine look_none fun j hj e => ?_
    rcases Nat.lt_trichotomy j k with a | a | a
    · have := s.1 j a; omega
    · subst a; exact h ⟨hj, e⟩
    · have := asc_lt asc a hj; have := s.2 k (Nat.le_refl _) (by omega); omega

set_option maxHeartbeats 1000000 in
theorem count_any (hp : Option Addr) (c : Clk) (ka : Option Addr) (kc : Nat) (i : Int) (w : World) (hl : c.len ≤ 131072) (hkn : KN w ka c.len c.hs c.cn) (hasc : ∀ j, j + 1 < c.len → c.hs j < c.hs (j + 1)) :
    Calls Try.prog 41 #[.agg #[.pointer hp, .int .u32 c.own, .int .u32 c.n, .slice ka c.len kc], .int .u32 i] w fun e w' => e = .returned (.int .u32 (c.cnt i)) ∧ Below w.heap.size w w' := by
  obtain ⟨own, nn, len, hs, cn⟩ := c
  simp only at hl hkn hasc ⊢
  have HN : Hid (KN w ka len hs cn) := hkn
  have HA : Hid (∀ j, j + 1 < len → hs j < hs (j + 1)) := hasc
  clear hkn hasc
  cases hq : (i == own) with
  | true =>
    have HC : Hid ((Clk.mk own nn len hs cn).cnt i = nn) := by
      have : i = own := by simpa using hq
      unfold Clk.cnt; rw [if_pos this]; rfl
    go_enter Try.func41, Try.ntmps41
    go_wp2
    go_ret
    exact ⟨by rw [HC.out]; rfl, (Below.refl _ _).alloc (Nat.le_refl _) _⟩
  | false =>
    have HC : Hid ((Clk.mk own nn len hs cn).cnt i = look hs cn i len) := by
      have : i ≠ own := by simpa using hq
      unfold Clk.cnt; rw [if_neg this]; rfl
    go_enter Try.func41, Try.ntmps41
    go_wp2
    go_quiet (fail)
    generalize hW : (w.alloc (.cells #[.pointer hp, .int .u32 own, .int .u32 nn, .slice ka len kc] 71)).drewN nq = W at *
    have HB : Hid (Below w.heap.size w W) := by rw [← hW]; exact below_drewN ((Below.refl _ _).alloc (Nat.le_refl _) _) _
    have f3 : W.cell? ⟨w.heap.size, 3, none⟩ = some (.slice ka len kc) := by rw [← hW]; simp
    clear hW
    go_wp2
    go_loopg [5, 6] len (fun kx s9 s10 wr => ∃ lo hi : Nat, s9 = .int .i64 lo ∧ s10 = .int .i64 hi ∧ lo ≤ hi ∧ hi ≤ len ∧ hi - lo ≤ kx ∧ wr = W ∧ Hid (Span hs i len lo hi))
    case atStart => exact ⟨0, len, rfl, rfl, Nat.zero_le _, Nat.le_refl _, by omega, rfl, (⟨fun t ht => by omega, fun t h1 h2 => by omega⟩ : Span hs i len 0 len)⟩
    case round =>
      obtain ⟨lo, hi, rfl, rfl, hlh, hin, hgh, hw, hsp⟩ := hrel
      rw [hw]
      clear hw
      by_cases hlt : lo < hi
      · rcases HN.out with e0 | ⟨b0, o0, ha0, hb0, hc0⟩
        · omega
        have d0 := (hc0 ((lo + hi) / 2) (by omega)).1
        rw [← HB.out.cell hb0] at d0
        clear hc0
        subst ha0
        by_cases hx : hs ((lo + hi) / 2) < i
        · go_wp2
          go_roundg (hi - ((lo + hi) / 2 + 1))
          case measure => omega
          case rel => exact ⟨(lo + hi) / 2 + 1, hi, by rw [show ((lo : Int) + (hi : Int)) / 2 + 1 = (((lo + hi) / 2 + 1 : Nat) : Int) by omega], rfl, by omega, hin, Nat.le_refl _, rfl, hsp.out.up HA.out (by omega) hx⟩
        · go_wp2
          go_roundg ((lo + hi) / 2 - lo)
          case measure => omega
          case rel => exact ⟨lo, (lo + hi) / 2, rfl, by rw [show ((lo : Int) + (hi : Int)) / 2 = (((lo + hi) / 2 : Nat) : Int) by omega], by omega, by omega, Nat.le_refl _, rfl, hsp.out.down HA.out (by omega)⟩
      · obtain rfl : hi = lo := by omega
        have HL := hsp.out.look (cn := cn) HA.out
        by_cases hk : hi < len
        · rcases HN.out with e0 | ⟨b0, o0, ha0, hb0, hc0⟩
          · omega
          obtain ⟨d0, d1⟩ := hc0 hi hk
          rw [← HB.out.cell hb0] at d0 d1
          clear hc0
          subst ha0
          cases hq2 : (hs hi == i) with
          | true =>
            have HL2 : Hid (look hs cn i len = cn hi) := by rw [HL, if_pos ⟨hk, by simpa using hq2⟩]; rfl
            clear HL
            go_wp2
            go_ret
            exact ⟨by rw [HC.out, HL2.out]; rfl, HB.out⟩
          | false =>
            have HL2 : Hid (look hs cn i len = 0) := by rw [HL, if_neg (by rintro ⟨-, h⟩; simp [h] at hq2)]; rfl
            clear HL
            go_wp2
            go_ret
            exact ⟨by rw [HC.out, HL2.out]; rfl, HB.out⟩
        · have HL2 : Hid (look hs cn i len = 0) := by rw [HL, if_neg (by rintro ⟨h, -⟩; exact hk h)]; rfl
          clear HL
          go_wp2
          go_ret
          exact ⟨by rw [HC.out, HL2.out]; rfl, HB.out⟩

end Go.Proofs.Qxb6609005a
