import Derived.Test.Qxb6609005aW8
namespace Go.Proofs.Qxb6609005a
open Go.RowKit Go.WideMaps Go.Maps Go.Sort
set_option linter.unusedSimpArgs false
set_option linter.unusedVariables false

theorem most_eq {c d : Clk} {k : Nat} (hc : c.Good k) (hd : d.Fits) : mostB c d = domN c d k := by
  rw [Bool.eq_iff_iff, mostB_iff]; exact most_iff hc hd

theorem zzknows_any (ey ex : Nat) (hy hx : ByteArray) (ly lx : Int) (py px : Option Addr) (cy cx : Clk) (kay kax : Option Addr) (kcy kcx bm n : Nat) (nm : Nat → ByteArray) (w : World)
    (hM : NumMap w bm nm n) (Y : EvLog w ey hy ly py cy kay kcy bm n nm) (X : EvLog w ex hx lx px cx kax kcx bm n nm) (hg : cx.Good n) :
    Calls Try.prog 14 #[.pointer (some ⟨ey, 0, none⟩), .pointer (some ⟨ex, 0, none⟩)] w fun e w' => e = .returned (.bool (knB nm n hy cy cx)) ∧ Below w.heap.size w w' := by
  have HK : Hid (Calls Try.prog 28 #[.pointer (some ⟨ey, 0, none⟩), .pointer (some ⟨ex, 0, none⟩)] w fun e w' => e = .returned (.bool (knB nm n hy cy cx)) ∧ Below w.heap.size w w') := by
    have := knows_any ey ex hy hx ly lx py px cy cx kay kax kcy kcx bm n nm w hM Y X
    rw [most_eq hg Y.fits] at this
    exact this
  clear hM Y X
  go_enter Try.func14, Try.ntmps14
  go_wp2_with fail
  refine HK.out.mono ?_
  rintro e w' ⟨rfl, hb⟩
  go_wp2
  go_ret
  exact ⟨rfl, hb⟩

/-- an event that came in, boxed in block b -/
structure Boxed (w : World) (b : Nat) (h : ByteArray) (l : Int) (z : Bool) (o n : Int) (a : Option Addr) (len cap : Nat) : Prop where
  lt : b < w.heap.size
  c0 : w.cell? ⟨b, 0, none⟩ = some (.string h)
  c1 : w.cell? ⟨b, 1, none⟩ = some (.int .u64 l)
  c2 : w.cell? ⟨b, 2, none⟩ = some (.bool z)
  c3 : w.cell? ⟨b, 3, none⟩ = some (.int .u32 o)
  c4 : w.cell? ⟨b, 4, none⟩ = some (.int .u32 n)
  c5 : w.cell? ⟨b, 5, none⟩ = some (.slice a len cap)
theorem Boxed.below {w w' : World} {b : Nat} {h : ByteArray} {l : Int} {z : Bool} {o n : Int} {a : Option Addr} {len cap : Nat} (x : Boxed w b h l z o n a len cap) (k : Below w.heap.size w w') : Boxed w' b h l z o n a len cap :=
  ⟨Nat.lt_of_lt_of_le x.lt k.size, by rw [k.cell x.lt]; exact x.c0, by rw [k.cell x.lt]; exact x.c1, by rw [k.cell x.lt]; exact x.c2, by rw [k.cell x.lt]; exact x.c3, by rw [k.cell x.lt]; exact x.c4, by rw [k.cell x.lt]; exact x.c5⟩
theorem Boxed.new (w : World) (h : ByteArray) (l : Int) (z : Bool) (o n : Int) (a : Option Addr) (len cap : Nat) :
    Boxed (w.alloc (.cells #[.string h, .int .u64 l, .bool z, .int .u32 o, .int .u32 n, .slice a len cap] 27)) w.heap.size h l z o n a len cap :=
  ⟨by simp, by rw [World.cell?_alloc_new]; rfl, by rw [World.cell?_alloc_new]; rfl, by rw [World.cell?_alloc_new]; rfl, by rw [World.cell?_alloc_new]; rfl, by rw [World.cell?_alloc_new]; rfl, by rw [World.cell?_alloc_new]; rfl⟩

/-- what an event that came in is, before its clock is looked at -/
structure EvRaw (w : World) (own nn : Int) (a : Option Addr) (len : Nat) (hs cn : Nat → Int) (host : ByteArray) : Prop where
  l : len ≤ maxLen
  kn : KN w a len hs cn
  own : 0 ≤ own ∧ own < 4294967296
  nn : 0 ≤ nn ∧ nn < 4294967296
  hs : ∀ j, j < len → 0 ≤ hs j ∧ hs j < 4294967296
  cn : ∀ j, j < len → 0 ≤ cn j ∧ cn j < 4294967296
  host : host.size ≤ maxLen
theorem EvRaw.below {w w' : World} {own nn : Int} {a : Option Addr} {len : Nat} {hs cn : Nat → Int} {host : ByteArray} (h : EvRaw w own nn a len hs cn host) (b : Below w.heap.size w w') : EvRaw w' own nn a len hs cn host :=
  ⟨h.l, h.kn.below b, h.own, h.nn, h.hs, h.cn, h.host⟩
theorem EvRaw.toIn {w : World} {own nn : Int} {a : Option Addr} {len : Nat} {hs cn : Nat → Int} {host : ByteArray} (h : EvRaw w own nn a len hs cn host) {k : Nat} {z : Bool} (hl : len ≤ 131072) (ok : ClockOk k z own len hs cn) : EvIn w k z own nn a len hs cn :=
  ⟨hl, h.kn, ok, h.own, h.nn, h.hs, h.cn⟩

/-- buildEvent at whatever event of the log -/
theorem buildEvent_any (a0 : Option Addr) (n0 c0 bm k : Nat) (host : ByteArray) (lam : Int) (z : Bool) (own nn : Int) (a : Option Addr) (len cap : Nat) (hs cn : Nat → Int) (nm : Nat → ByteArray) (w : World) (E : EvIn w k z own nn a len hs cn) (lh : host.size ≤ maxLen) :
    Calls Try.prog 13 #[.slice a0 n0 c0, .map (some bm), .agg #[.string host, .int .u64 lam, .bool z, .int .u32 own, .int .u32 nn, .slice a len cap]] w fun e w' =>
      ∃ eb hp ka kc, e = .returned (.pointer (some ⟨eb, 0, none⟩)) ∧ EvLog w' eb host lam hp (evClk z own nn len hs cn) ka kc bm k nm ∧ Below w.heap.size w w' := by
  cases z with
  | true =>
    refine (buildEvent_zero a0 n0 c0 (some bm) host lam own nn a len cap w).mono ?_
    rintro e w' ⟨eb, rfl, hE, hb⟩
    have hc : evClk true own nn len hs cn = zeroClk := rfl
    refine ⟨eb, none, none, 0, rfl, ?_, hb⟩
    rw [hc]
    refine ⟨hE, .inl rfl, fun _ => rfl, by simp [zeroClk], fun j hj => by simp [zeroClk] at hj, fun j hj => by simp [zeroClk] at hj, ?_, lh⟩
    have := E.fits
    rwa [hc] at this
  | false =>
    refine (buildEvent_some a0 n0 c0 bm host lam own nn a len cap hs cn w E.hl E.kn).mono ?_
    rintro e w' ⟨eb, hb, g, rfl, hE, hH, hbl⟩
    have hc : evClk false own nn len hs cn = ⟨own, nn, len, hs, cn⟩ := rfl
    have hg := E.good
    have hf := E.fits
    refine ⟨eb, some ⟨hb, 0, none⟩, some ⟨g, 0, none⟩, len, rfl, ?_, hbl⟩
    rcases E.ok with h | ⟨h1, h2⟩
    · cases h
    rw [hc] at hf ⊢
    refine ⟨hE, hH, (fun h => by cases h), E.hl, fun j hj => ?_, fun j hj => ?_, hf, lh⟩
    · have := (h2 (j + 1) hj).2.2.2 (by omega); simpa using this
    · have a1 := (E.cn j hj).1; have a2 := (h2 j hj).2.2.1
      show 0 < cn j
      omega

/-! names in order are distinct -/
theorem bl_irrefl : ∀ l : List UInt8, Op.bytesLess l l = false
  | [] => rfl
  | x :: l => by simp [Op.bytesLess, UInt8.lt_irrefl, bl_irrefl l]
theorem bl_trans : ∀ {a b c : List UInt8}, Op.bytesLess a b = true → Op.bytesLess b c = true → Op.bytesLess a c = true
  | _, [], _, h, _ => by simp [Op.bytesLess] at h
  | _, _ :: _, [], _, h => by simp [Op.bytesLess] at h
  | [], _ :: _, _ :: _, _, _ => by simp [Op.bytesLess]
  | x :: a, y :: b, z :: c, h, g => by
    simp only [Op.bytesLess, Bool.or_eq_true, decide_eq_true_eq, Bool.and_eq_true, beq_iff_eq] at h g ⊢
    rcases h with h | ⟨rfl, h⟩
    · rcases g with g | ⟨rfl, g⟩
      · exact .inl (UInt8.lt_trans h g)
      · exact .inl h
    · rcases g with g | ⟨rfl, g⟩
      · exact .inl g
      · exact .inr ⟨rfl, bl_trans h g⟩
theorem lt_far {nm : Nat → ByteArray} {n : Nat} (h : ∀ i, i + 1 < n → ltB (nm i) (nm (i + 1)) = true) : ∀ d i, i + d + 1 < n → ltB (nm i) (nm (i + d + 1)) = true
  | 0, i, hi => h i hi
  | d + 1, i, hi => bl_trans (lt_far h d i (by omega)) (h (i + d + 1) (by omega))
theorem distinct_of {nm : Nat → ByteArray} {n : Nat} (h : ∀ i, i + 1 < n → ltB (nm i) (nm (i + 1)) = true) : Distinct nm n := by
  have key : ∀ i j, i < j → j < n → nm i ≠ nm j := by
    intro i j hij hj e
    have := lt_far h (j - i - 1) i (by omega)
    rw [show i + (j - i - 1) + 1 = j by omega, e] at this
    have h2 : ltB (nm j) (nm j) = false := bl_irrefl _
    rw [h2] at this; cases this
  intro i j hi hj e
  rcases Nat.lt_trichotomy i j with a | a | a
  · exact absurd e (key i j a hj)
  · exact a
  · exact absurd e.symm (key j i a hi)

set_option maxRecDepth 100000 in
set_option maxHeartbeats 2000000 in
theorem main4 (a0 : Option Addr) (n0 c0 : Nat) (nm : Nat → ByteArray) (hx hy hz : ByteArray) (lx ly lz : Int) (zx zy zz : Bool) (ox oy oz nx ny nz : Int) (ax ay az : Option Addr) (kx dx ky dy kz dz : Nat) (hsx cnx hsy cny hsz cnz : Nat → Int) (w : World)
    (h0 : Rd w a0 n0 (fun i => .string (nm i))) (hs : ∀ i, i < n0 → (nm i).size ≤ maxLen) (l0 : n0 ≤ maxLen)
    (ex : EvRaw w ox nx ax kx hsx cnx hx) (ey : EvRaw w oy ny ay ky hsy cny hy) (ez : EvRaw w oz nz az kz hsz cnz hz) :
    Calls Try.prog 4 #[.slice a0 n0 c0, .agg #[.string hx, .int .u64 lx, .bool zx, .int .u32 ox, .int .u32 nx, .slice ax kx dx], .agg #[.string hy, .int .u64 ly, .bool zy, .int .u32 oy, .int .u32 ny, .slice ay ky dy], .agg #[.string hz, .int .u64 lz, .bool zz, .int .u32 oz, .int .u32 nz, .slice az kz dz]] w fun e w' => e = .returned (.bool true) ∧ Below w.heap.size w w' := by
  have H0 : Hid (Rd w a0 n0 (fun i => .string (nm i))) := h0
  have HS : Hid (∀ i, i < n0 → (nm i).size ≤ maxLen) := hs
  have HX : Hid (EvRaw w ox nx ax kx hsx cnx hx) := ex
  have HY : Hid (EvRaw w oy ny ay ky hsy cny hy) := ey
  have HZ : Hid (EvRaw w oz nz az kz hsz cnz hz) := ez
  have LM : Hid (n0 ≤ maxLen) := l0
  clear h0 hs ex ey ez l0
  go_enter Try.func4, Try.ntmps4
  go_wp2_with fail
  obtain ⟨W, hW⟩ : ∃ W, W = ((w.alloc (.cells #[.string hx, .int .u64 lx, .bool zx, .int .u32 ox, .int .u32 nx, .slice ax kx dx] 27)).alloc (.cells #[.string hy, .int .u64 ly, .bool zy, .int .u32 oy, .int .u32 ny, .slice ay ky dy] 27)).alloc (.cells #[.string hz, .int .u64 lz, .bool zz, .int .u32 oz, .int .u32 nz, .slice az kz dz] 27) := ⟨_, rfl⟩
  rw [← hW]
  have BW : Hid (Below w.heap.size w W) := by rw [hW]; exact (((Below.refl _ _).alloc (Nat.le_refl _) _).alloc (by simp) _).alloc (by simp; omega) _
  have XB : Hid (Boxed W w.heap.size hx lx zx ox nx ax kx dx) := by
    rw [hW]; exact ((Boxed.new w hx lx zx ox nx ax kx dx).below ((Below.refl _ _).alloc (Nat.le_refl _) _)).below ((Below.refl _ _).alloc (Nat.le_refl _) _)
  have YB : Hid (Boxed W (w.heap.size + 1) hy ly zy oy ny ay ky dy) := by
    have := (Boxed.new (w.alloc (.cells #[.string hx, .int .u64 lx, .bool zx, .int .u32 ox, .int .u32 nx, .slice ax kx dx] 27)) hy ly zy oy ny ay ky dy).below ((Below.refl _ _).alloc (Nat.le_refl _) (.cells #[.string hz, .int .u64 lz, .bool zz, .int .u32 oz, .int .u32 nz, .slice az kz dz] 27))
    rw [World.size_alloc] at this
    rw [hW]; exact this
  have ZB : Hid (Boxed W (w.heap.size + 1 + 1) hz lz zz oz nz az kz dz) := by
    have := Boxed.new ((w.alloc (.cells #[.string hx, .int .u64 lx, .bool zx, .int .u32 ox, .int .u32 nx, .slice ax kx dx] 27)).alloc (.cells #[.string hy, .int .u64 ly, .bool zy, .int .u32 oy, .int .u32 ny, .slice ay ky dy] 27)) hz lz zz oz nz az kz dz
    rw [World.size_alloc, World.size_alloc] at this
    rw [hW]; exact this
  clear hW
  have R0 : Hid (Rd W a0 n0 (fun i => .string (nm i))) := H0.out.below BW.out
  have EX : Hid (EvRaw W ox nx ax kx hsx cnx hx) := HX.out.below BW.out
  have EY : Hid (EvRaw W oy ny ay ky hsy cny hy) := HY.out.below BW.out
  have EZ : Hid (EvRaw W oz nz az kz hsz cnz hz) := HZ.out.below BW.out
  clear H0 HX HY HZ
  refine (zzBytes16 a0 n0 c0 nm hx hy hz lx ly lz zx zy zz ox oy oz nx ny nz ax ay az kx dx ky dy kz dz W R0.out HS.out LM.out EX.out.l EY.out.l EZ.out.l EX.out.host EY.out.host EZ.out.host).mono ?_
  rintro e w1 ⟨⟨r1, rfl, -⟩, hB1⟩
  have B1 : Hid (Below W.heap.size W w1) := hB1
  clear hB1
  have fin : Hid (∀ w', Below W.heap.size W w' → Below w.heap.size w w') := fun w' h => BW.out.trans (h.mono BW.out.size)
  cases r1 with
  | false =>
    go_wp2
    go_ret
    exact ⟨rfl, fin.out _ B1.out⟩
  | true =>
  obtain ⟨xl, x0, x1, x2, x3, x4, x5⟩ := XB.out.below B1.out
  obtain ⟨yl, y0, y1, y2, y3, y4, y5⟩ := YB.out.below B1.out
  obtain ⟨zl, z0, z1, z2, z3, z4, z5⟩ := ZB.out.below B1.out
  go_wp2_with fail
  refine (addNames_any a0 n0 c0 nm w1 LM.out (R0.out.below B1.out) HS.out).mono ?_
  rintro e w2 ⟨⟨r2, rfl, hr0, hr1⟩, hw⟩
  rw [hw]
  clear hw w2
  by_cases hq2 : r2 ≤ 1048576
  · have hn8 := hr1 hq2
    have hnn : n0 ≤ 131072 := by omega
    clear hr1 hn8
    go_wp2_with fail
    refine (addEvent_any r2 hx lx zx ox nx ax kx dx w1 (by omega) (by omega) EX.out.host EX.out.l).mono ?_
    rintro e w3 ⟨⟨r3, rfl, hr30, hr31⟩, o3, hw⟩
    have B3 : Hid (Below W.heap.size W w3) := by rw [hw]; exact B1.out.alloc B1.out.size _
    clear hw
    by_cases hqr3 : r3 ≤ 1048576
    rotate_left
    · have hqr3' : 1048576 < r3 := by omega
      go_wp2
      go_ret
      exact ⟨rfl, fin.out _ B3.out⟩
    have hkx : kx ≤ 131072 := by have := hr31 hqr3; omega
    clear hr31
    clear xl x0 x1 x2 x3 x4 x5 yl y0 y1 y2 y3 y4 y5 zl z0 z1 z2 z3 z4 z5
    obtain ⟨xl, x0, x1, x2, x3, x4, x5⟩ := XB.out.below B3.out
    obtain ⟨yl, y0, y1, y2, y3, y4, y5⟩ := YB.out.below B3.out
    obtain ⟨zl, z0, z1, z2, z3, z4, z5⟩ := ZB.out.below B3.out
    go_wp2_with fail
    refine (addEvent_any r3 hy ly zy oy ny ay ky dy w3 (by omega) (by omega) EY.out.host EY.out.l).mono ?_
    rintro e w4 ⟨⟨r4, rfl, hr40, hr41⟩, o4, hw⟩
    have B4 : Hid (Below W.heap.size W w4) := by rw [hw]; exact B3.out.alloc B3.out.size _
    clear hw
    by_cases hqr4 : r4 ≤ 1048576
    rotate_left
    · have hqr4' : 1048576 < r4 := by omega
      go_wp2
      go_ret
      exact ⟨rfl, fin.out _ B4.out⟩
    have hky : ky ≤ 131072 := by have := hr41 hqr4; omega
    clear hr41
    clear xl x0 x1 x2 x3 x4 x5 yl y0 y1 y2 y3 y4 y5 zl z0 z1 z2 z3 z4 z5
    obtain ⟨xl, x0, x1, x2, x3, x4, x5⟩ := XB.out.below B4.out
    obtain ⟨yl, y0, y1, y2, y3, y4, y5⟩ := YB.out.below B4.out
    obtain ⟨zl, z0, z1, z2, z3, z4, z5⟩ := ZB.out.below B4.out
    go_wp2_with fail
    refine (addEvent_any r4 hz lz zz oz nz az kz dz w4 (by omega) (by omega) EZ.out.host EZ.out.l).mono ?_
    rintro e w5 ⟨⟨r5, rfl, hr50, hr51⟩, o5, hw⟩
    have B5 : Hid (Below W.heap.size W w5) := by rw [hw]; exact B4.out.alloc B4.out.size _
    clear hw
    by_cases hqr5 : r5 ≤ 1048576
    rotate_left
    · have hqr5' : 1048576 < r5 := by omega
      go_wp2
      go_ret
      exact ⟨rfl, fin.out _ B5.out⟩
    have hkz : kz ≤ 131072 := by have := hr51 hqr5; omega
    clear hr51
    clear xl x0 x1 x2 x3 x4 x5 yl y0 y1 y2 y3 y4 y5 zl z0 z1 z2 z3 z4 z5
    obtain ⟨xl, x0, x1, x2, x3, x4, x5⟩ := XB.out.below B5.out
    obtain ⟨yl, y0, y1, y2, y3, y4, y5⟩ := YB.out.below B5.out
    obtain ⟨zl, z0, z1, z2, z3, z4, z5⟩ := ZB.out.below B5.out
    go_wp2_with fail
    refine (namesSorted_any a0 n0 c0 nm w5 hnn (R0.out.below B5.out)).mono ?_
    rintro e w6 ⟨⟨r6, rfl, hr6⟩, m6, hw⟩
    have B6 : Hid (Below W.heap.size W w6) := by rw [hw]; exact below_drewN B5.out _
    clear hw
    cases r6 with
    | false =>
      go_wp2
      go_ret
      exact ⟨rfl, fin.out _ B6.out⟩
    | true =>
    have HDi : Hid (Distinct nm n0) := distinct_of (hr6 rfl)
    clear hr6
    clear xl x0 x1 x2 x3 x4 x5 yl y0 y1 y2 y3 y4 y5 zl z0 z1 z2 z3 z4 z5
    obtain ⟨xl, x0, x1, x2, x3, x4, x5⟩ := XB.out.below B6.out
    obtain ⟨yl, y0, y1, y2, y3, y4, y5⟩ := YB.out.below B6.out
    obtain ⟨zl, z0, z1, z2, z3, z4, z5⟩ := ZB.out.below B6.out
    go_wp2_with fail
    refine (validClock_any n0 hx lx zx ox nx ax kx dx hsx cnx w6 hnn hkx (EX.out.kn.below B6.out) EX.out.own EX.out.hs).mono ?_
    rintro e w7 ⟨⟨r7, rfl, hr7⟩, o7, hw⟩
    have B7 : Hid (Below W.heap.size W w7) := by rw [hw]; exact B6.out.alloc B6.out.size _
    clear hw
    cases r7 with
    | false =>
      go_wp2
      go_ret
      exact ⟨rfl, fin.out _ B7.out⟩
    | true =>
    have Kx : Hid (ClockOk n0 zx ox kx hsx cnx) := hr7 rfl
    clear hr7
    clear xl x0 x1 x2 x3 x4 x5 yl y0 y1 y2 y3 y4 y5 zl z0 z1 z2 z3 z4 z5
    obtain ⟨xl, x0, x1, x2, x3, x4, x5⟩ := XB.out.below B7.out
    obtain ⟨yl, y0, y1, y2, y3, y4, y5⟩ := YB.out.below B7.out
    obtain ⟨zl, z0, z1, z2, z3, z4, z5⟩ := ZB.out.below B7.out
    go_wp2_with fail
    refine (validClock_any n0 hy ly zy oy ny ay ky dy hsy cny w7 hnn hky (EY.out.kn.below B7.out) EY.out.own EY.out.hs).mono ?_
    rintro e w8 ⟨⟨r8, rfl, hr8⟩, o8, hw⟩
    have B8 : Hid (Below W.heap.size W w8) := by rw [hw]; exact B7.out.alloc B7.out.size _
    clear hw
    cases r8 with
    | false =>
      go_wp2
      go_ret
      exact ⟨rfl, fin.out _ B8.out⟩
    | true =>
    have Ky : Hid (ClockOk n0 zy oy ky hsy cny) := hr8 rfl
    clear hr8
    clear xl x0 x1 x2 x3 x4 x5 yl y0 y1 y2 y3 y4 y5 zl z0 z1 z2 z3 z4 z5
    obtain ⟨xl, x0, x1, x2, x3, x4, x5⟩ := XB.out.below B8.out
    obtain ⟨yl, y0, y1, y2, y3, y4, y5⟩ := YB.out.below B8.out
    obtain ⟨zl, z0, z1, z2, z3, z4, z5⟩ := ZB.out.below B8.out
    go_wp2_with fail
    refine (validClock_any n0 hz lz zz oz nz az kz dz hsz cnz w8 hnn hkz (EZ.out.kn.below B8.out) EZ.out.own EZ.out.hs).mono ?_
    rintro e w9 ⟨⟨r9, rfl, hr9⟩, o9, hw⟩
    have B9 : Hid (Below W.heap.size W w9) := by rw [hw]; exact B8.out.alloc B8.out.size _
    clear hw
    cases r9 with
    | false =>
      go_wp2
      go_ret
      exact ⟨rfl, fin.out _ B9.out⟩
    | true =>
    have Kz : Hid (ClockOk n0 zz oz kz hsz cnz) := hr9 rfl
    clear hr9
    clear xl x0 x1 x2 x3 x4 x5 yl y0 y1 y2 y3 y4 y5 zl z0 z1 z2 z3 z4 z5
    obtain ⟨xl, x0, x1, x2, x3, x4, x5⟩ := XB.out.below B9.out
    obtain ⟨yl, y0, y1, y2, y3, y4, y5⟩ := YB.out.below B9.out
    obtain ⟨zl, z0, z1, z2, z3, z4, z5⟩ := ZB.out.below B9.out
    go_wp2_with fail
    refine (buildNumber_any a0 n0 c0 nm w9 hnn (R0.out.below B9.out) HS.out).mono ?_
    rintro e wa ⟨bm, rfl, hMa, hBa⟩
    have B10 : Hid (Below W.heap.size W wa) := B9.out.trans (hBa.mono B9.out.size)
    have Ma : Hid (NumMap wa bm nm n0) := hMa
    clear hMa hBa
    clear xl x0 x1 x2 x3 x4 x5 yl y0 y1 y2 y3 y4 y5 zl z0 z1 z2 z3 z4 z5
    obtain ⟨xl, x0, x1, x2, x3, x4, x5⟩ := XB.out.below B10.out
    obtain ⟨yl, y0, y1, y2, y3, y4, y5⟩ := YB.out.below B10.out
    obtain ⟨zl, z0, z1, z2, z3, z4, z5⟩ := ZB.out.below B10.out
    go_wp2_with fail
    refine (buildEvent_any a0 n0 c0 bm n0 hx lx zx ox nx ax kx dx hsx cnx nm wa ((EX.out.below B10.out).toIn hkx Kx.out) EX.out.host).mono ?_
    rintro e wb ⟨ex, px, kax, kcx, rfl, hLx, hBb⟩
    have B11 : Hid (Below W.heap.size W wb) := B10.out.trans (hBb.mono B10.out.size)
    have Lx11 : Hid (EvLog wb ex hx lx px (evClk zx ox nx kx hsx cnx) kax kcx bm n0 nm) := hLx
    have M11 : Hid (NumMap wb bm nm n0) := Ma.out.below hBb
    clear hLx hBb
    clear xl x0 x1 x2 x3 x4 x5 yl y0 y1 y2 y3 y4 y5 zl z0 z1 z2 z3 z4 z5
    obtain ⟨xl, x0, x1, x2, x3, x4, x5⟩ := XB.out.below B11.out
    obtain ⟨yl, y0, y1, y2, y3, y4, y5⟩ := YB.out.below B11.out
    obtain ⟨zl, z0, z1, z2, z3, z4, z5⟩ := ZB.out.below B11.out
    go_wp2_with fail
    refine (buildEvent_any a0 n0 c0 bm n0 hy ly zy oy ny ay ky dy hsy cny nm wb ((EY.out.below B11.out).toIn hky Ky.out) EY.out.host).mono ?_
    rintro e wc ⟨ey, py, kay, kcy, rfl, hLy, hBb⟩
    have B12 : Hid (Below W.heap.size W wc) := B11.out.trans (hBb.mono B11.out.size)
    have Ly12 : Hid (EvLog wc ey hy ly py (evClk zy oy ny ky hsy cny) kay kcy bm n0 nm) := hLy
    have M12 : Hid (NumMap wc bm nm n0) := M11.out.below hBb
    have Lx12 : Hid (EvLog wc ex hx lx px (evClk zx ox nx kx hsx cnx) kax kcx bm n0 nm) := Lx11.out.below hBb
    clear hLy hBb
    clear xl x0 x1 x2 x3 x4 x5 yl y0 y1 y2 y3 y4 y5 zl z0 z1 z2 z3 z4 z5
    obtain ⟨xl, x0, x1, x2, x3, x4, x5⟩ := XB.out.below B12.out
    obtain ⟨yl, y0, y1, y2, y3, y4, y5⟩ := YB.out.below B12.out
    obtain ⟨zl, z0, z1, z2, z3, z4, z5⟩ := ZB.out.below B12.out
    go_wp2_with fail
    refine (buildEvent_any a0 n0 c0 bm n0 hz lz zz oz nz az kz dz hsz cnz nm wc ((EZ.out.below B12.out).toIn hkz Kz.out) EZ.out.host).mono ?_
    rintro e wd ⟨ez, pz, kaz, kcz, rfl, hLz, hBb⟩
    have B13 : Hid (Below W.heap.size W wd) := B12.out.trans (hBb.mono B12.out.size)
    have Lz13 : Hid (EvLog wd ez hz lz pz (evClk zz oz nz kz hsz cnz) kaz kcz bm n0 nm) := hLz
    have M13 : Hid (NumMap wd bm nm n0) := M12.out.below hBb
    have Lx13 : Hid (EvLog wd ex hx lx px (evClk zx ox nx kx hsx cnx) kax kcx bm n0 nm) := Lx12.out.below hBb
    have Ly13 : Hid (EvLog wd ey hy ly py (evClk zy oy ny ky hsy cny) kay kcy bm n0 nm) := Ly12.out.below hBb
    clear hLz hBb
    clear xl x0 x1 x2 x3 x4 x5 yl y0 y1 y2 y3 y4 y5 zl z0 z1 z2 z3 z4 z5
    obtain ⟨xl, x0, x1, x2, x3, x4, x5⟩ := XB.out.below B13.out
    obtain ⟨yl, y0, y1, y2, y3, y4, y5⟩ := YB.out.below B13.out
    obtain ⟨zl, z0, z1, z2, z3, z4, z5⟩ := ZB.out.below B13.out
    generalize hcx : evClk zx ox nx kx hsx cnx = cx at *
    generalize hcy : evClk zy oy ny ky hsy cny = cy at *
    generalize hcz : evClk zz oz nz kz hsz cnz = cz at *
    have CX : Hid (evClk zx ox nx kx hsx cnx = cx) := hcx
    have CY : Hid (evClk zy oy ny ky hsy cny = cy) := hcy
    have CZ : Hid (evClk zz oz nz kz hsz cnz = cz) := hcz
    clear hcx hcy hcz
    have GX : Hid (cx.Good n0) := by rw [← CX.out]; exact (EX.out.toIn hkx Kx.out).good
    have GY : Hid (cy.Good n0) := by rw [← CY.out]; exact (EY.out.toIn hky Ky.out).good
    go_wp2_with fail
    refine (zzknows_any ez ey hz hy lz ly pz py cz cy kaz kay kcz kcy bm n0 nm wd M13.out Lz13.out Ly13.out GY.out).mono ?_
    rintro e we ⟨rfl, hBb⟩
    have B14 : Hid (Below W.heap.size W we) := B13.out.trans (hBb.mono B13.out.size)
    have M14 : Hid (NumMap we bm nm n0) := M13.out.below hBb
    have Lx14 : Hid (EvLog we ex hx lx px cx kax kcx bm n0 nm) := Lx13.out.below hBb
    have Ly14 : Hid (EvLog we ey hy ly py cy kay kcy bm n0 nm) := Ly13.out.below hBb
    have Lz14 : Hid (EvLog we ez hz lz pz cz kaz kcz bm n0 nm) := Lz13.out.below hBb
    clear hBb
    clear xl x0 x1 x2 x3 x4 x5 yl y0 y1 y2 y3 y4 y5 zl z0 z1 z2 z3 z4 z5
    obtain ⟨xl, x0, x1, x2, x3, x4, x5⟩ := XB.out.below B14.out
    obtain ⟨yl, y0, y1, y2, y3, y4, y5⟩ := YB.out.below B14.out
    obtain ⟨zl, z0, z1, z2, z3, z4, z5⟩ := ZB.out.below B14.out
    go_wp2_with fail
    refine (zzknows_any ey ex hy hx ly lx py px cy cx kay kax kcy kcx bm n0 nm we M14.out Ly14.out Lx14.out GX.out).mono ?_
    rintro e wf ⟨rfl, hBb⟩
    have B15 : Hid (Below W.heap.size W wf) := B14.out.trans (hBb.mono B14.out.size)
    have M15 : Hid (NumMap wf bm nm n0) := M14.out.below hBb
    have Lx15 : Hid (EvLog wf ex hx lx px cx kax kcx bm n0 nm) := Lx14.out.below hBb
    have Ly15 : Hid (EvLog wf ey hy ly py cy kay kcy bm n0 nm) := Ly14.out.below hBb
    have Lz15 : Hid (EvLog wf ez hz lz pz cz kaz kcz bm n0 nm) := Lz14.out.below hBb
    clear hBb
    clear xl x0 x1 x2 x3 x4 x5 yl y0 y1 y2 y3 y4 y5 zl z0 z1 z2 z3 z4 z5
    obtain ⟨xl, x0, x1, x2, x3, x4, x5⟩ := XB.out.below B15.out
    obtain ⟨yl, y0, y1, y2, y3, y4, y5⟩ := YB.out.below B15.out
    obtain ⟨zl, z0, z1, z2, z3, z4, z5⟩ := ZB.out.below B15.out
    go_wp2_with fail
    refine (zzknows_any ez ex hz hx lz lx pz px cz cx kaz kax kcz kcx bm n0 nm wf M15.out Lz15.out Lx15.out GX.out).mono ?_
    rintro e wg ⟨rfl, hBb⟩
    have B16 : Hid (Below W.heap.size W wg) := B15.out.trans (hBb.mono B15.out.size)
    have M16 : Hid (NumMap wg bm nm n0) := M15.out.below hBb
    have Lx16 : Hid (EvLog wg ex hx lx px cx kax kcx bm n0 nm) := Lx15.out.below hBb
    have Ly16 : Hid (EvLog wg ey hy ly py cy kay kcy bm n0 nm) := Ly15.out.below hBb
    have Lz16 : Hid (EvLog wg ez hz lz pz cz kaz kcz bm n0 nm) := Lz15.out.below hBb
    clear hBb
    clear xl x0 x1 x2 x3 x4 x5 yl y0 y1 y2 y3 y4 y5 zl z0 z1 z2 z3 z4 z5
    obtain ⟨xl, x0, x1, x2, x3, x4, x5⟩ := XB.out.below B16.out
    obtain ⟨yl, y0, y1, y2, y3, y4, y5⟩ := YB.out.below B16.out
    obtain ⟨zl, z0, z1, z2, z3, z4, z5⟩ := ZB.out.below B16.out
    go_wp2_with fail
    refine (knowsModel_any a0 n0 c0 nm hz hx lz lx zz zx oz ox nz nx az ax kz dz kx dx hsz cnz hsx cnx wg hnn (R0.out.below B16.out) HDi.out ((EZ.out.below B16.out).toIn hkz Kz.out) ((EX.out.below B16.out).toIn hkx Kx.out)).mono ?_
    rw [CZ.out, CX.out]
    rintro e wh ⟨rfl, hBb⟩
    have B17 : Hid (Below W.heap.size W wh) := B16.out.trans (hBb.mono B16.out.size)
    clear hBb
    have HT := @knB_trans nm n0 hz hy cz cy cx
    generalize knB nm n0 hz cz cy = b1 at *
    generalize knB nm n0 hy cy cx = b2 at *
    generalize knB nm n0 hz cz cx = b3 at *
    have HT2 : Hid (b1 = true → b2 = true → b3 = true) := fun h1 h2 => HT h1 h2
    clear HT
    cases b3 with
    | true =>
      cases b1 with
      | true =>
        cases b2 with
        | true =>
          go_wp2
          go_ret
          exact ⟨rfl, fin.out _ B17.out⟩
        | false =>
          go_wp2
          go_ret
          exact ⟨rfl, fin.out _ B17.out⟩
      | false =>
        go_wp2
        go_ret
        exact ⟨rfl, fin.out _ B17.out⟩
    | false =>
      cases b1 with
      | true =>
        cases b2 with
        | true => have := HT2.out rfl rfl; cases this
        | false =>
          go_wp2
          go_ret
          exact ⟨rfl, fin.out _ B17.out⟩
      | false =>
        go_wp2
        go_ret
        exact ⟨rfl, fin.out _ B17.out⟩
  · have hq2' : 1048576 < r2 := by omega
    go_wp2
    go_ret
    exact ⟨rfl, fin.out _ B1.out⟩

end Go.Proofs.Qxb6609005a
