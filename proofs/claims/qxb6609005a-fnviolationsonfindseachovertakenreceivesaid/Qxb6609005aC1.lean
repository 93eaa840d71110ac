import Derived.Test.Qxb6609005aM4
namespace Go.Proofs.Qxb6609005a
open Go.RowKit Go.WideMaps Go.Maps Go.Sort
set_option linter.unusedSimpArgs false
set_option linter.unusedVariables false
set_option linter.unusedSectionVars false

/-- an event of the host as it came in -/
structure Ev where
  rv : Bool
  host : ByteArray
  lam : Int
  z : Bool
  own : Int
  nn : Int
  a : Option Addr
  len : Nat
  cap : Nat
  hs : Nat → Int
  cn : Nat → Int

def Ev.clk (e : Ev) : Clk := evClk e.z e.own e.nn e.len e.hs e.cn

/-- its seven cells -/
structure EvC (w : World) (b q : Nat) (e : Ev) : Prop where
  c0 : w.cell? ⟨b, q, none⟩ = some (.bool e.rv)
  c1 : w.cell? ⟨b, q + 1, none⟩ = some (.string e.host)
  c2 : w.cell? ⟨b, q + 1 + 1, none⟩ = some (.int .u64 e.lam)
  c3 : w.cell? ⟨b, q + 1 + 2, none⟩ = some (.bool e.z)
  c4 : w.cell? ⟨b, q + 1 + 3, none⟩ = some (.int .u32 e.own)
  c5 : w.cell? ⟨b, q + 1 + 4, none⟩ = some (.int .u32 e.nn)
  c6 : w.cell? ⟨b, q + 1 + 5, none⟩ = some (.slice e.a e.len e.cap)

/-- all events of the host as they came in -/
structure EvsAt (w : World) (a1 : Option Addr) (m : Nat) (ev : Nat → Ev) : Prop where
  cells : m = 0 ∨ ∃ b o, a1 = some ⟨b, o, none⟩ ∧ b < w.heap.size ∧ ∀ i, i < m → EvC w b (o + i * 7) (ev i)
  raw : ∀ i, i < m → EvRaw w (ev i).own (ev i).nn (ev i).a (ev i).len (ev i).hs (ev i).cn (ev i).host

theorem EvC.below {w w' : World} {b q : Nat} {e : Ev} (h : EvC w b q e) (hb : b < w.heap.size) (k : Below w.heap.size w w') : EvC w' b q e :=
  ⟨by rw [k.cell hb]; exact h.c0, by rw [k.cell hb]; exact h.c1, by rw [k.cell hb]; exact h.c2, by rw [k.cell hb]; exact h.c3, by rw [k.cell hb]; exact h.c4, by rw [k.cell hb]; exact h.c5, by rw [k.cell hb]; exact h.c6⟩
theorem EvsAt.below {w w' : World} {a1 : Option Addr} {m : Nat} {ev : Nat → Ev} (h : EvsAt w a1 m ev) (k : Below w.heap.size w w') : EvsAt w' a1 m ev := by
  refine ⟨?_, fun i hi => (h.raw i hi).below k⟩
  rcases h.cells with e | ⟨b, o, ha, hb, hc⟩
  · exact .inl e
  · exact .inr ⟨b, o, ha, Nat.lt_of_lt_of_le hb k.size, fun i hi => (hc i hi).below hb k⟩
theorem EvsAt.at {w : World} {a1 : Option Addr} {m : Nat} {ev : Nat → Ev} (h : EvsAt w a1 m ev) {i : Nat} (hi : i < m) : ∃ b o, a1 = some ⟨b, o, none⟩ ∧ EvC w b (o + i * 7) (ev i) := by
  rcases h.cells with e | ⟨b, o, ha, hb, hc⟩
  · omega
  · exact ⟨b, o, ha, hc i hi⟩

set_option maxHeartbeats 400000 in
theorem addEvent2 (t : Int) (host : ByteArray) (lam : Int) (z : Bool) (own nn : Int) (a : Option Addr) (len cap : Nat) (w : World) (ht : 0 ≤ t) (ht2 : t ≤ 2000000) (lh : host.size ≤ maxLen) (ll : len ≤ maxLen) :
    Calls Try.prog 9 #[.int .i64 t, .agg #[.string host, .int .u64 lam, .bool z, .int .u32 own, .int .u32 nn, .slice a len cap]] w fun e w' =>
      (∃ r : Int, e = .returned (.int .i64 r) ∧ 0 ≤ r ∧ r ≤ 20000000 ∧ (r ≤ 1048576 → t + 8 * (len : Int) ≤ r)) ∧ Below w.heap.size w w' := by
  have HB : Hid (∀ o, Below w.heap.size w (w.alloc o)) := fun o => (Below.refl _ _).alloc (Nat.le_refl _) _
  unfold maxLen at *
  go_enter Try.func9, Try.ntmps9
  go_wp2
  all_goals
    go_ret
    first
      | exact ⟨⟨1048577, rfl, by omega, by omega, by omega⟩, HB.out _⟩
      | exact ⟨⟨_, rfl, by omega, by omega, fun _ => by omega⟩, HB.out _⟩

set_option maxHeartbeats 1000000 in
theorem hostBytes_any (a0 : Option Addr) (n0 c0 : Nat) (nm : Nat → ByteArray) (a1 : Option Addr) (m c1 : Nat) (ev : Nat → Ev) (nf : Nat) (w : World) (h0 : Rd w a0 n0 (fun i => .string (nm i))) (hs : ∀ i, i < n0 → (nm i).size ≤ maxLen) (l0 : n0 ≤ maxLen) (hm : m ≤ 1024) (h1 : EvsAt w a1 m ev) (hf : nf ≤ 65536) :
    Calls Try.prog 18 #[.slice a0 n0 c0, .slice a1 m c1, .int .i64 nf] w fun e w' =>
      (∃ r : Int, e = .returned (.int .i64 r) ∧ (r ≤ 1048576 → n0 ≤ 131072 ∧ ∀ i, i < m → (ev i).len ≤ 131072)) ∧ Below w.heap.size w w' := by
  have HA : Hid (∀ i, i < m → _) := fun i hi => h1.raw i hi
  have H1 : Hid (EvsAt w a1 m ev) := h1
  have CN : Hid (Calls Try.prog 8 #[.int .i64 0, .slice a0 n0 c0] w fun e w' => (∃ r : Int, e = .returned (.int .i64 r) ∧ 0 ≤ r ∧ (r ≤ 1048576 → 8 * (n0 : Int) ≤ r)) ∧ w' = w) := addNames_any a0 n0 c0 nm w l0 h0 hs
  clear h0 hs h1
  go_enter Try.func18, Try.ntmps18
  go_wp2_with fail
  refine CN.out.mono ?_
  rintro e w1 ⟨⟨r, rfl, hr0, hr1⟩, hw⟩
  rw [hw]
  clear hw w1
  have HR1 : Hid (r ≤ 1048576 → 8 * (n0 : Int) ≤ r) := hr1
  clear hr1
  go_wp2_with fail
  go_loopg [7, 8] m (fun kx s t wr => ∃ (k : Nat) (z : Int), k ≤ m ∧ t = .int .i64 k ∧ s = .int .i64 z ∧ 0 ≤ z ∧ m - k ≤ kx ∧ Hid ((z ≤ 1048576 → 8 * (n0 : Int) ≤ z ∧ ∀ i, i < k → 8 * ((ev i).len : Int) ≤ z) ∧ Below w.heap.size w wr))
  case atStart => exact ⟨0, r, Nat.zero_le _, rfl, rfl, hr0, by omega, fun h => ⟨HR1.out h, fun i hi => by omega⟩, Below.refl _ _⟩
  case round =>
    obtain ⟨k, z, hk, rfl, rfl, hz0, hgh, HZ⟩ := hrel
    by_cases hlt : k < m
    · by_cases hz : z ≤ 1048576
      · obtain ⟨b1, o1, ha1, X⟩ := (H1.out.below HZ.out.2).at hlt
        have hra := HA.out k hlt
        obtain ⟨x0, x1, x2, x3, x4, x5, x6⟩ := X
        have hlh := hra.host
        have hll := hra.l
        clear hra
        have HE : Hid (∀ i, i < k + 1 → i = k ∨ i < k) := fun i hi => by omega
        generalize hek : ev k = ek at *
        have HK : Hid (ev k = ek) := hek
        clear hek
        subst ha1
        go_wp2_with fail
        refine (addEvent2 _ _ _ _ _ _ _ _ _ _ (by omega) (by omega) hlh hll).mono ?_
        rintro e w2 ⟨⟨r2, rfl, hr20, hr22, hr21⟩, hb2⟩
        have HZ2 : Hid ((r2 ≤ 1048576 → 8 * (n0 : Int) ≤ r2 ∧ ∀ i, i < k + 1 → 8 * ((ev i).len : Int) ≤ r2) ∧ Below w.heap.size w w2) := by
          refine ⟨fun h => ?_, HZ.out.2.trans (hb2.mono HZ.out.2.size)⟩
          have h1 := hr21 h
          obtain ⟨h2, h3⟩ := HZ.out.1 hz
          refine ⟨by omega, fun i hi => ?_⟩
          rcases HE.out i hi with e | e
          · subst e; rw [HK.out]; omega
          · have := h3 i e; omega
        clear hr21 hb2
        go_wp2
        go_roundg (m - (k + 1))
        case measure => omega
        case rel => exact ⟨k + 1, r2, by omega, by go_num, rfl, hr20, Nat.le_refl _, HZ2⟩
      · have hz' : 1048576 < z := by omega
        go_wp2
        go_ret
        exact ⟨⟨z, rfl, fun h => by omega⟩, HZ.out.2⟩
    · obtain rfl : k = m := by omega
      by_cases hz : z ≤ 1048576
      · go_wp2
        go_ret
        refine ⟨⟨_, rfl, fun h => ?_⟩, HZ.out.2⟩
        obtain ⟨h2, h3⟩ := HZ.out.1 hz
        exact ⟨by omega, fun i hi => by have := h3 i hi; omega⟩
      · have hz' : 1048576 < z := by omega
        go_wp2
        go_ret
        exact ⟨⟨z, rfl, fun h => by omega⟩, HZ.out.2⟩

/-- validClock, named -/
theorem EvRaw.valid {w : World} {e : Ev} (h : EvRaw w e.own e.nn e.a e.len e.hs e.cn e.host) {n0 : Nat} (hn : n0 ≤ 131072) (hl : e.len ≤ 131072) :
    Calls Try.prog 11 #[.int .i64 n0, .agg #[.string e.host, .int .u64 e.lam, .bool e.z, .int .u32 e.own, .int .u32 e.nn, .slice e.a e.len e.cap]] w fun x w' => Says x (fun r => r = true → ClockOk n0 e.z e.own e.len e.hs e.cn) ∧ ∃ o, w' = w.alloc o :=
  validClock_any n0 e.host e.lam e.z e.own e.nn e.a e.len e.cap e.hs e.cn w hn hl h.kn h.own h.hs

set_option maxHeartbeats 1000000 in
theorem hostShaped_any (a0 : Option Addr) (n0 c0 : Nat) (nm : Nat → ByteArray) (a1 : Option Addr) (m c1 : Nat) (ev : Nat → Ev) (w : World) (h0 : Rd w a0 n0 (fun i => .string (nm i))) (hn : n0 ≤ 131072) (hm : m ≤ 1024) (h1 : EvsAt w a1 m ev) (hl : ∀ i, i < m → (ev i).len ≤ 131072) :
    Calls Try.prog 19 #[.slice a0 n0 c0, .slice a1 m c1] w fun e w' =>
      Says e (fun r => r = true → (∀ i, i + 1 < n0 → ltB (nm i) (nm (i + 1)) = true) ∧ ∀ i, i < m → (ev i).rv = true → ClockOk n0 (ev i).z (ev i).own (ev i).len (ev i).hs (ev i).cn) ∧ Below w.heap.size w w' := by
  have H1 : Hid (EvsAt w a1 m ev) := h1
  have HL : Hid (∀ i, i < m → (ev i).len ≤ 131072) := hl
  have CN : Hid (Calls Try.prog 10 #[.slice a0 n0 c0] w fun e w' => Says e (fun r => r = true → ∀ i, i + 1 < n0 → ltB (nm i) (nm (i + 1)) = true) ∧ ∃ m, w' = w.drewN m) := namesSorted_any a0 n0 c0 nm w hn h0
  clear h0 h1 hl
  go_enter Try.func19, Try.ntmps19
  go_wp2_with fail
  refine CN.out.mono ?_
  rintro e w1 ⟨⟨r, rfl, hr1⟩, m1, hw⟩
  have B1 : Hid (Below w.heap.size w w1) := by rw [hw]; exact below_drewN (Below.refl _ _) _
  clear hw
  cases r with
  | false =>
    go_wp2
    go_ret
    exact ⟨⟨false, rfl, fun h => by cases h⟩, B1.out⟩
  | true =>
  have HN : Hid (∀ i, i + 1 < n0 → ltB (nm i) (nm (i + 1)) = true) := hr1 rfl
  clear hr1
  go_wp2_with fail
  go_loopg [5] m (fun kx t wr => ∃ (k : Nat), k ≤ m ∧ t = .int .i64 k ∧ m - k ≤ kx ∧ Hid ((∀ i, i < k → (ev i).rv = true → ClockOk n0 (ev i).z (ev i).own (ev i).len (ev i).hs (ev i).cn) ∧ Below w.heap.size w wr))
  case atStart => exact ⟨0, Nat.zero_le _, rfl, by omega, fun i hi => by omega, B1.out⟩
  case round =>
    obtain ⟨k, hk, rfl, hgh, HZ⟩ := hrel
    by_cases hlt : k < m
    · obtain ⟨b1, o1, ha1, X⟩ := (H1.out.below HZ.out.2).at hlt
      have hra := (H1.out.below HZ.out.2).raw k hlt
      have hvl := hra.valid hn (HL.out k hlt)
      obtain ⟨x0, x1, x2, x3, x4, x5, x6⟩ := X
      clear hra
      have HE : Hid (∀ i, i < k + 1 → i = k ∨ i < k) := fun i hi => by omega
      generalize hek : ev k = ek at *
      have HK : Hid (ev k = ek) := hek
      clear hek
      subst ha1
      cases hrv : ek.rv with
      | false =>
        rw [hrv] at x0
        have HZ2 : Hid ((∀ i, i < k + 1 → (ev i).rv = true → ClockOk n0 (ev i).z (ev i).own (ev i).len (ev i).hs (ev i).cn) ∧ Below w.heap.size w wr) := by
          refine ⟨fun i hi hr => ?_, HZ.out.2⟩
          rcases HE.out i hi with e | e
          · subst e; rw [HK.out, hrv] at hr; cases hr
          · exact HZ.out.1 i e hr
        clear hrv
        go_wp2
        go_roundg (m - (k + 1))
        case measure => omega
        case rel => exact ⟨k + 1, by omega, by go_num, Nat.le_refl _, HZ2⟩
      | true =>
        rw [hrv] at x0
        have HRV : Hid (ek.rv = true) := hrv
        clear hrv
        go_wp2_with fail
        refine hvl.mono ?_
        rintro e w2 ⟨⟨r, rfl, hr2⟩, o, hw⟩
        have B2 : Hid (Below w.heap.size w w2) := by rw [hw]; exact HZ.out.2.alloc HZ.out.2.size _
        clear hw hvl
        cases r with
        | false =>
          go_wp2
          go_ret
          exact ⟨⟨false, rfl, fun h => by cases h⟩, B2.out⟩
        | true =>
          have HZ2 : Hid ((∀ i, i < k + 1 → (ev i).rv = true → ClockOk n0 (ev i).z (ev i).own (ev i).len (ev i).hs (ev i).cn) ∧ Below w.heap.size w w2) := by
            refine ⟨fun i hi hr => ?_, B2.out⟩
            rcases HE.out i hi with e | e
            · subst e; rw [HK.out]; exact hr2 rfl
            · exact HZ.out.1 i e hr
          clear hr2
          go_wp2
          go_roundg (m - (k + 1))
          case measure => omega
          case rel => exact ⟨k + 1, by omega, by go_num, Nat.le_refl _, HZ2⟩
    · obtain rfl : k = m := by omega
      go_wp2
      go_ret
      exact ⟨⟨true, rfl, fun _ => ⟨HN.out, HZ.out.1⟩⟩, HZ.out.2⟩

end Go.Proofs.Qxb6609005a
