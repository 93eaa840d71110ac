import Derived.Test.Qxb6609005aW5
namespace Go.Proofs.Qxb6609005a
open Go.RowKit Go.WideMaps Go.Maps
set_option linter.unusedSimpArgs false
set_option linter.unusedVariables false

theorem dense_any (k : Nat) (host : ByteArray) (lam : Int) (z : Bool) (own nn : Int) (a : Option Addr) (len cap : Nat) (hs cn : Nat → Int) (w : World) (hk : k ≤ 131072) (hl : len ≤ 131072) (hkn : KN w a len hs cn)
    (hv : ClockOk k z own len hs cn) (ho0 : 0 ≤ own) (hh0 : ∀ j, j < len → 0 ≤ hs j) :
    Calls Try.prog 29 #[.int .i64 k, .agg #[.string host, .int .u64 lam, .bool z, .int .u32 own, .int .u32 nn, .slice a len cap]] w fun e w' =>
      ∃ g, e = .returned (.slice (some ⟨g, 0, none⟩) k k) ∧ Own w' g k (fun i => .int .u32 ((evClk z own nn len hs cn).cnt i)) ∧ Below w.heap.size w w' := by
  cases z with
  | true => exact dense_zero k host lam own nn a len cap w hk
  | false =>
    rcases hv with h | ⟨h1, h2⟩
    · cases h
    · exact dense_some k host lam own nn a len cap hs cn w hk hl hkn ho0 h1 hh0 (fun j hj => (h2 j hj).1)

/-- what an event that came in is told by: its clock's numbers, where its entries lie -/
structure EvIn (w : World) (k : Nat) (z : Bool) (own nn : Int) (a : Option Addr) (len : Nat) (hs cn : Nat → Int) : Prop where
  hl : len ≤ 131072
  kn : KN w a len hs cn
  ok : ClockOk k z own len hs cn
  own : 0 ≤ own ∧ own < 4294967296
  nn : 0 ≤ nn ∧ nn < 4294967296
  hs : ∀ j, j < len → 0 ≤ hs j ∧ hs j < 4294967296
  cn : ∀ j, j < len → 0 ≤ cn j ∧ cn j < 4294967296
theorem EvIn.below {w w' : World} {k : Nat} {z : Bool} {own nn : Int} {a : Option Addr} {len : Nat} {hs cn : Nat → Int} (h : EvIn w k z own nn a len hs cn) (b : Below w.heap.size w w') : EvIn w' k z own nn a len hs cn :=
  ⟨h.hl, h.kn.below b, h.ok, h.own, h.nn, h.hs, h.cn⟩
theorem EvIn.fits {w : World} {k : Nat} {z : Bool} {own nn : Int} {a : Option Addr} {len : Nat} {hs cn : Nat → Int} (h : EvIn w k z own nn a len hs cn) : (evClk z own nn len hs cn).Fits := by
  unfold evClk
  split
  · exact ⟨⟨by decide, by decide⟩, ⟨by decide, by decide⟩, fun j hj => absurd hj (Nat.not_lt_zero _), fun j hj => absurd hj (Nat.not_lt_zero _)⟩
  · exact ⟨h.own, h.nn, h.hs, h.cn⟩
theorem EvIn.good {w : World} {k : Nat} {z : Bool} {own nn : Int} {a : Option Addr} {len : Nat} {hs cn : Nat → Int} (h : EvIn w k z own nn a len hs cn) : (evClk z own nn len hs cn).Good k := by
  unfold evClk
  split
  · exact .inl rfl
  · next hz =>
    rcases h.ok with h1 | ⟨h1, h2⟩
    · exact absurd h1 hz
    · exact .inr ⟨h.own.1, h1, h.nn.1, fun j hj => (h.hs j hj).1, fun j hj => (h2 j hj).1, fun j hj => (h2 j hj).2.1, fun j hj => by
        have := (h.cn j hj).1; have := (h2 j hj).2.2.1
        show 0 < cn j
        omega, fun j hj => by have := (h2 (j + 1) hj).2.2.2 (by omega); simpa using this⟩

set_option maxRecDepth 100000 in
set_option maxHeartbeats 1000000 in
theorem knowsModel_any (a0 : Option Addr) (k c0 : Nat) (nm : Nat → ByteArray) (hy hx : ByteArray) (ly lx : Int) (zy zx : Bool) (oy ox ny nx : Int) (ay ax : Option Addr) (ky dy kx dx : Nat) (hsy cny hsx cnx : Nat → Int) (w : World)
    (hk : k ≤ 131072) (h0 : Rd w a0 k (fun i => .string (nm i))) (hd : Distinct nm k) (ey : EvIn w k zy oy ny ay ky hsy cny) (ex : EvIn w k zx ox nx ax kx hsx cnx) :
    Calls Try.prog 15 #[.slice a0 k c0, .agg #[.string hy, .int .u64 ly, .bool zy, .int .u32 oy, .int .u32 ny, .slice ay ky dy], .agg #[.string hx, .int .u64 lx, .bool zx, .int .u32 ox, .int .u32 nx, .slice ax kx dx]] w fun e w' =>
      e = .returned (.bool (knB nm k hy (evClk zy oy ny ky hsy cny) (evClk zx ox nx kx hsx cnx))) ∧ Below w.heap.size w w' := by
  have H0 : Hid (Rd w a0 k (fun i => .string (nm i))) := h0
  have HD : Hid (Distinct nm k) := hd
  have EY : Hid (EvIn w k zy oy ny ay ky hsy cny) := ey
  have EX : Hid (EvIn w k zx ox nx ax kx hsx cnx) := ex
  clear h0 hd ey ex
  have HB : Hid (∀ x y, Below w.heap.size w ((w.alloc x).alloc y)) := fun x y => ((Below.refl _ _).alloc (Nat.le_refl _) _).alloc (by simp) _
  generalize hcy : evClk zy oy ny ky hsy cny = cy
  generalize hcx : evClk zx ox nx kx hsx cnx = cx
  have HCY : Hid (evClk zy oy ny ky hsy cny = cy) := hcy
  have HCX : Hid (evClk zx ox nx kx hsx cnx = cx) := hcx
  clear hcy hcx
  go_enter Try.func15, Try.ntmps15
  go_wp2_with fail
  have E1 := EY.out.below (HB.out (.cells #[.string hy, .int .u64 ly, .bool zy, .int .u32 oy, .int .u32 ny, .slice ay ky dy] 27) (.cells #[.string hx, .int .u64 lx, .bool zx, .int .u32 ox, .int .u32 nx, .slice ax kx dx] 27))
  refine (dense_any k hy ly zy oy ny ay ky dy hsy cny _ hk E1.hl E1.kn E1.ok E1.own.1 (fun j hj => (E1.hs j hj).1)).mono ?_
  clear E1
  rintro e w1 ⟨g1, rfl, hO1, hB1⟩
  rw [HCY.out] at hO1
  have hc1 := bcell hB1
  have O1 : Hid (Own w1 g1 k (fun i => .int .u32 (cy.cnt i))) := hO1
  have B1 : Hid (Below w.heap.size w w1) := (HB.out _ _).trans (hB1.mono (by simp; omega))
  have hz1 : w.heap.size + 1 < w1.heap.size := by have := hB1.size; simp at this; omega
  have HC1 : Hid (∀ o, w1.cell? ⟨w.heap.size, o, none⟩ = ((w.alloc (.cells #[.string hy, .int .u64 ly, .bool zy, .int .u32 oy, .int .u32 ny, .slice ay ky dy] 27)).alloc (.cells #[.string hx, .int .u64 lx, .bool zx, .int .u32 ox, .int .u32 nx, .slice ax kx dx] 27)).cell? ⟨w.heap.size, o, none⟩) := fun o => hc1 _ o (by simp; omega)
  clear hO1 hB1
  go_wp2_with fail
  have E2 := EX.out.below B1.out
  refine (dense_any k hx lx zx ox nx ax kx dx hsx cnx w1 hk E2.hl E2.kn E2.ok E2.own.1 (fun j hj => (E2.hs j hj).1)).mono ?_
  clear E2
  rintro e w2 ⟨g2, rfl, hO2, hB2⟩
  rw [HCX.out] at hO2
  have O2 : Hid (Own w2 g2 k (fun i => .int .u32 (cx.cnt i))) := hO2
  have O1' : Hid (Own w2 g1 k (fun i => .int .u32 (cy.cnt i))) := O1.out.below hB2 O1.out.lt
  have B2 : Hid (Below w.heap.size w w2) := B1.out.trans (hB2.mono B1.out.size)
  have y0 : w2.cell? ⟨w.heap.size, 0, none⟩ = some (.string hy) := by
    rw [hB2.cell (show w.heap.size < w1.heap.size by omega), HC1.out, cellA (by simp), World.cell?_alloc_new]; rfl
  have R2 : Hid (Rd w2 a0 k (fun i => .string (nm i))) := H0.out.below B2.out
  clear hO2 hB2 O1 B1 hc1 hz1 HC1 H0 EX EY HB
  go_wp2
  go_loopg [9] k (fun kk s wr => ∃ i : Nat, i ≤ k ∧ s = .int .i64 i ∧ k - i ≤ kk ∧ Hid (domN cx cy i = true) ∧ ∃ m, wr = w2.drewN m)
  case atStart => exact ⟨0, Nat.zero_le _, rfl, by omega, (rfl : domN cx cy 0 = true), 0, rfl⟩
  case round =>
    obtain ⟨i, hi, rfl, hgi, hDm, m, rfl⟩ := hrel
    by_cases hlt : i < k
    · have x0 := O2.out.cell i hlt
      have x1 := O1'.out.cell i hlt
      by_cases hq : cx.cnt i ≤ cy.cnt i
      · have hD' : Hid (domN cx cy (i + 1) = true) := by
          show (domN cx cy i && decide (cx.cnt i ≤ cy.cnt i)) = true
          rw [hDm.out]; simp [hq]
        have hq' : ¬ cy.cnt i < cx.cnt i := by omega
        go_wp2
        go_quiet (fail)
        go_wp2
        go_roundg (k - (i + 1))
        case measure => omega
        case rel => exact ⟨i + 1, by omega, by go_num, Nat.le_refl _, hD', by first | exact ⟨_, rfl⟩ | (simp only [World.drewN_drewN]; exact ⟨_, rfl⟩)⟩
      · have hq' : cy.cnt i < cx.cnt i := by omega
        have hF : Hid (knB nm k hy cy cx = false) := by
          have : domN cx cy k = false := by
            cases h : domN cx cy k with
            | false => rfl
            | true => exact absurd ((domN_iff cx cy k).1 h i hlt) hq
          show (domN cx cy k && _) = false
          rw [this]; rfl
        go_wp2
        go_quiet (fail)
        go_wp2
        go_ret
        exact ⟨ret_bool hF.out.symm, below_drewN (below_drewN B2.out _) _⟩
    · obtain rfl : i = k := by omega
      have hKB : Hid (knB nm i hy cy cx = decide (cH nm i cx hy < cH nm i cy hy)) := by
        show (domN cx cy i && _) = _
        rw [hDm.out]; rfl
      go_wp2_with fail
      refine (indexOf_any a0 i c0 nm hy _ hk (R2.out.below (below_drewN (Below.refl _ _) _)) HD.out).mono ?_
      rintro e w3 ⟨hI, hw⟩
      rw [hw]
      clear hw w3
      rcases hI with ⟨t, ht, rfl⟩ | ⟨ht, rfl⟩
      · have hti := (idxOf_some ht).1
        have hKB2 : Hid (knB nm i hy cy cx = decide (cx.cnt t < cy.cnt t)) := by rw [hKB.out, cH_some ht, cH_some ht]; rfl
        have x0 := O2.out.cell t hti
        have x1 := O1'.out.cell t hti
        clear ht
        go_wp2
        go_quiet (fail)
        go_wp2
        go_ret
        exact ⟨ret_bool hKB2.out.symm, below_drewN (below_drewN B2.out _) _⟩
      · have hF : Hid (knB nm i hy cy cx = false) := by rw [hKB.out, cH_none ht, cH_none ht]; rfl
        clear ht
        go_wp2
        go_ret
        exact ⟨ret_bool hF.out.symm, below_drewN B2.out _⟩

end Go.Proofs.Qxb6609005a
