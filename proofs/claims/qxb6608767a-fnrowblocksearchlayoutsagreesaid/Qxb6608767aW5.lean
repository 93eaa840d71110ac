import Derived.Test.Qxb6608767aW4
namespace Go.Proofs.Qxb6608767a
open Go.RowKit
set_option linter.unusedSimpArgs false
set_option linter.unusedVariables false

/-- a callee's contract met behind draws, in a region that only reads -/
theorem quiet_of2 {P : Program} {f : FuncId} {args : Array Value} {w : World} {m x : Nat} {v : Value}
    (h : Calls P f args (w.drewN (m + x)) fun e w' => e = .returned v ∧ ∃ k, w' = (w.drewN (m + x)).drewN k) : Calls P f args (w.drewN (m + x)) fun e w'' => e = .returned v ∧ ∃ n, w'' = w.drewN (m + n) :=
  h.mono fun _ _ ⟨he, k, hk⟩ => ⟨he, x + k, by rw [hk, World.drewN_drewN, Nat.add_assoc]⟩

theorem plN_wrap (p : Int) : IntKind.i64.wrap (bits BinOp.andNot IntKind.u16 p 32768) = (plN p : Int) := by
  have h := bounds_u16 (wf_bits BinOp.andNot IntKind.u16 p 32768)
  rw [IntKind.wrap_i64]
  unfold plN
  generalize bits BinOp.andNot IntKind.u16 p 32768 = x at *
  omega

/-- it returns a bool of which φ holds -/
def Says (e : Ending) (φ : Bool → Prop) : Prop := ∃ r : Bool, e = .returned (.bool r) ∧ φ r

set_option maxHeartbeats 400000 in
theorem zzBytes_any (a0 a1 a2 : Option Addr) (n0 c0 n1 c1 n2 c2 : Nat) (nm : Nat → ByteArray) (q : ByteArray) (w : World)
    (h0 : Rd w a0 n0 (fun i => .string (nm i))) (hs : ∀ i, i < n0 → (nm i).size ≤ maxLen) (l0 : n0 ≤ maxLen) (l1 : n1 ≤ maxLen) (l2 : n2 ≤ maxLen) (l3 : q.size ≤ maxLen) :
    Calls Try.prog 5 #[.slice a0 n0 c0, .slice a1 n1 c1, .slice a2 n2 c2, .string q] w fun e w' => Says e (fun r => r = true → ∀ i, i < n0 → (nm i).size ≤ 1048576) ∧ w' = w := by
  unfold maxLen at *
  have H0 : Hid (Rd w a0 n0 (fun i => .string (nm i))) := h0
  clear h0
  by_cases hbig : n0 ≤ 1048576
  · go_enter Try.func5, Try.ntmps5
    go_wp2
    go_loopg [9, 10] n0 (fun kx s t wr => ∃ (k : Nat) (z : Int), k ≤ n0 ∧ t = .int .i64 k ∧ s = .int .i64 z ∧ 0 ≤ z ∧ z ≤ 1048576 ∧ n0 - k ≤ kx ∧ Hid (∀ i, i < k → (nm i).size ≤ 1048576) ∧ wr = w)
    case atStart => exact ⟨0, _, Nat.zero_le _, rfl, rfl, by omega, by omega, by omega, (fun i hi => by omega : ∀ i, i < 0 → (nm i).size ≤ 1048576), rfl⟩
    case round =>
      obtain ⟨k, z, hk, rfl, rfl, hz0, hz1, hgh, hA, rfl⟩ := hrel
      by_cases hlt : k < n0
      · rcases H0.out with e0 | ⟨b0, o0, ha0, hb0, hc0⟩
        · omega
        have d0 := hc0 k hlt
        have s0 := hs k hlt
        clear hc0 hs
        subst ha0
        go_wp2
        · go_ret
          exact ⟨⟨false, rfl, (fun h => by cases h)⟩, rfl⟩
        · go_ret
          exact ⟨⟨false, rfl, (fun h => by cases h)⟩, rfl⟩
        · go_roundg (n0 - (k + 1))
          case measure => omega
          case rel =>
            refine ⟨k + 1, _, by omega, by go_num, rfl, by omega, by omega, Nat.le_refl _, ?_, rfl⟩
            have hA' : ∀ i, i < k + 1 → (nm i).size ≤ 1048576 := by
              intro i hi
              by_cases e : i = k
              · subst e; omega
              · exact hA.out i (by omega)
            exact hA'
      · have hA' : Hid (∀ i, i < n0 → (nm i).size ≤ 1048576) := fun i hi => hA.out i (by omega)
        go_wp2
        all_goals (go_ret; exact ⟨⟨_, rfl, fun _ => hA'.out⟩, rfl⟩)
  · go_enter Try.func5, Try.ntmps5
    go_wp2
    go_ret
    exact ⟨⟨false, rfl, (fun h => by cases h)⟩, rfl⟩

/-- what a layout that passes is: with no order -/
def LayPlain (n n1 : Nat) (nm : Nat → ByteArray) : Prop := n1 = n ∧ ∀ i, i + 1 < n → cmpB (nm i) (nm (i + 1)) < 0

set_option maxHeartbeats 400000 in
theorem layoutOK_plain (a0 a1 : Option Addr) (n c0 n1 c1 : Nat) (nm : Nat → ByteArray) (w : World) (hn : n ≤ 4096) (hn1 : n1 ≤ 4096)
    (h0 : Rd w a0 n (fun i => .string (nm i))) (hs : ∀ i, i < n → (nm i).size ≤ maxLen) :
    Calls Try.prog 6 #[.slice a0 n c0, .slice a1 n1 c1, .slice none 0 0] w fun e w' => Says e (fun r => r = true → LayPlain n n1 nm) ∧ ∃ m, w' = w.drewN m := by
  have q24 : ∀ (w : World) (a : Option Addr) (n c n' c' : Nat), (binOp .eql 24 (.slice a n c) (.slice none n' c')).run Try.prog w = .ok (.bool a.isNone) w := fun w a n c n' c' => Lib.run_eql_slice_nil w _ _ a n c n' c' Try.underlying24
  have H0 : Hid (Rd w a0 n (fun i => .string (nm i))) := h0
  have HS : Hid (∀ i, i < n → (nm i).size ≤ maxLen) := hs
  clear h0 hs
  by_cases hne : n1 = n
  · subst hne
    go_enter Try.func6, Try.ntmps6
    go_wp2
    go_loopg [8] n1 (fun kx s wr => ∃ k : Nat, 1 ≤ k ∧ (k ≤ n1 ∨ k = 1) ∧ s = .int .i64 k ∧ n1 - k ≤ kx ∧ Hid (∀ i, i + 1 < k → cmpB (nm i) (nm (i + 1)) < 0) ∧ ∃ m, wr = w.drewN m)
    case atStart => exact ⟨1, Nat.le_refl _, .inr rfl, rfl, by omega, (fun i hi => by omega : ∀ i, i + 1 < 1 → cmpB (nm i) (nm (i + 1)) < 0), 0, rfl⟩
    case round =>
      obtain ⟨k, hk1, hk, rfl, hgh, hA, m, rfl⟩ := hrel
      by_cases hlt : k < n1
      · rcases H0.out with e0 | ⟨b0, o0, ha0, hb0, hc0⟩
        · omega
        have d0 := hc0 (k - 1) (by omega)
        have d1 := hc0 k hlt
        have g0 := HS.out (k - 1) (by omega)
        have g1 := HS.out k hlt
        have i0 : IntKind.i64.wrap ((k : Int) - 1) = ((k - 1 : Nat) : Int) := by rw [IntKind.wrap_i64]; omega
        have i1 : k - 1 < n1 := by omega
        generalize hj : k - 1 = j at *
        have HJ : Hid (k - 1 = j) := hj
        clear hj
        clear hc0
        subst ha0
        go_wp2
        go_quiet ((go_at_call 8; exact quiet_of2 (rbCmp_any _ _ _ g0 g1)))
        go_wp2
        · go_ret
          exact ⟨⟨false, rfl, (fun h => by cases h)⟩, by first | exact ⟨_, rfl⟩ | (simp only [World.drewN_drewN]; exact ⟨_, rfl⟩)⟩
        · have hlt0 : cmpB (nm j) (nm k) < 0 := by assumption
          go_roundg (n1 - (k + 1))
          case measure => omega
          case rel =>
            refine ⟨k + 1, by omega, .inl (by omega), by go_num, Nat.le_refl _, ?_, by first | exact ⟨_, rfl⟩ | (simp only [World.drewN_drewN]; exact ⟨_, rfl⟩)⟩
            have hA' : ∀ i, i + 1 < k + 1 → cmpB (nm i) (nm (i + 1)) < 0 := by
              intro i hi
              by_cases e : i + 1 = k
              · have : i = j := by have := HJ.out; omega
                rw [e, this]; exact hlt0
              · exact hA.out i (by omega)
            exact hA'
      · go_wp2
        go_ret
        exact ⟨⟨true, rfl, fun _ => ⟨rfl, fun i hi => hA.out i (by omega)⟩⟩, _, rfl⟩
  · go_enter Try.func6, Try.ntmps6
    go_wp2
    go_ret
    exact ⟨⟨false, rfl, (fun h => by cases h)⟩, 0, rfl⟩

/-- what a layout that passes is: with an order -/
def LayOrd (n n1 n2 : Nat) (nm : Nat → ByteArray) (od : Nat → Int) : Prop :=
  n1 = n ∧ n2 = n ∧ (∀ k, k < n → plN (od k) < n) ∧ (∀ i j, i < n → j < n → plN (od i) = plN (od j) → i = j) ∧ ∀ i, i + 1 < n → cmpB (nm (plN (od i))) (nm (plN (od (i + 1)))) < 0

/-- the marks after k rounds -/
def Seen (w : World) (g n : Nat) (od : Nat → Int) (k : Nat) : Prop :=
  ∃ f, Own w g n f ∧ (∀ p, p < n → ∃ b : Bool, f p = .bool b) ∧ ∀ i, i < k → f (plN (od i)) = .bool true

theorem Seen.set {w : World} {g n : Nat} {od : Nat → Int} {k : Nat} (h : Seen w g n od k) (hp : plN (od k) < n) : Seen (w.setCell ⟨g, plN (od k), none⟩ (.bool true)) g n od (k + 1) := by
  obtain ⟨f, hf, hb, hx⟩ := h
  refine ⟨_, hf.set _ hp _, fun p hp' => ?_, fun i hi => ?_⟩
  · by_cases e : p = plN (od k)
    · simp [e]
    · simp only [e, if_false]; exact hb p hp'
  · by_cases e : plN (od i) = plN (od k)
    · simp [e]
    · simp only [e, if_false]
      refine hx i ?_
      by_cases e2 : i = k
      · subst e2; exact absurd rfl e
      · omega

theorem Seen.drewN {w : World} {g n : Nat} {od : Nat → Int} {k : Nat} (h : Seen w g n od k) (m : Nat) : Seen (w.drewN m) g n od k := by
  obtain ⟨f, hf, hb, hx⟩ := h
  exact ⟨f, hf.drewN m, hb, hx⟩

/-- what the first k rounds have shown -/
def OrdTo (n : Nat) (nm : Nat → ByteArray) (od : Nat → Int) (k : Nat) : Prop :=
  (∀ i, i < k → plN (od i) < n) ∧ (∀ i j, i < k → j < k → plN (od i) = plN (od j) → i = j) ∧ ∀ i, i + 1 < k → cmpB (nm (plN (od i))) (nm (plN (od (i + 1)))) < 0

theorem OrdTo.step {n : Nat} {nm : Nat → ByteArray} {od : Nat → Int} {k : Nat} (h : OrdTo n nm od k) (hp : plN (od k) < n) (hnew : ∀ i, i < k → plN (od i) ≠ plN (od k)) (hc : ∀ i, i + 1 = k → cmpB (nm (plN (od i))) (nm (plN (od k))) < 0) :
    OrdTo n nm od (k + 1) := by
  obtain ⟨h1, h2, h3⟩ := h
  refine ⟨fun i hi => ?_, fun i j hi hj e => ?_, fun i hi => ?_⟩
  · by_cases e : i = k
    · subst e; exact hp
    · exact h1 i (by omega)
  · by_cases ei : i = k
    · by_cases ej : j = k
      · omega
      · subst ei; exact absurd e.symm (hnew j (by omega))
    · by_cases ej : j = k
      · subst ej; exact absurd e (hnew i (by omega))
      · exact h2 i j (by omega) (by omega) e
  · by_cases e : i + 1 = k
    · rw [e]; exact hc i e
    · exact h3 i (by omega)

/-- the place before: -1 at the first -/
def prevOf (od : Nat → Int) (k : Nat) : Int := if k = 0 then -1 else (plN (od (k - 1)) : Int)

set_option maxHeartbeats 400000 in
theorem layoutOK_ordered (a0 a1 : Option Addr) (b2 o2 n c0 n1 c1 n2 c2 : Nat) (nm : Nat → ByteArray) (od : Nat → Int) (w : World) (hn : n ≤ 4096) (hn1 : n1 ≤ 4096) (hn2 : n2 ≤ 4096)
    (h0 : Rd w a0 n (fun i => .string (nm i))) (hs : ∀ i, i < n → (nm i).size ≤ maxLen) (hb2 : b2 < w.heap.size) (h2 : ∀ i, i < n2 → w.cell? ⟨b2, o2 + i, none⟩ = some (.int .u16 (od i))) :
    Calls Try.prog 6 #[.slice a0 n c0, .slice a1 n1 c1, .slice (some ⟨b2, o2, none⟩) n2 c2] w fun e w' => Says e (fun r => r = true → LayOrd n n1 n2 nm od) ∧ Below w.heap.size w w' := by
  have q24 : ∀ (w : World) (a : Option Addr) (n c n' c' : Nat), (binOp .eql 24 (.slice a n c) (.slice none n' c')).run Try.prog w = .ok (.bool a.isNone) w := fun w a n c n' c' => Lib.run_eql_slice_nil w _ _ a n c n' c' Try.underlying24
  have hmk := run_mk (P := Try.prog) 36 4 _ 1 1 Try.underlying36 info4 n (by omega) (by omega)
  have H0 : Hid (Rd w a0 n (fun i => .string (nm i))) := h0
  have HS : Hid (∀ i, i < n → (nm i).size ≤ maxLen) := hs
  have H2 : Hid (∀ i, i < n2 → w.cell? ⟨b2, o2 + i, none⟩ = some (.int .u16 (od i))) := h2
  clear h0 hs h2
  by_cases hne : n1 = n
  · subst hne
    by_cases hne2 : n2 = n1
    · subst hne2
      go_enter Try.func6, Try.ntmps6
      go_wp2
      go_loopg [10, 11] n2 (fun kx t s wr => ∃ k : Nat, k ≤ n2 ∧ s = .int .i64 k ∧ t = .int .i64 (prevOf od k) ∧ n2 - k ≤ kx ∧ Hid (Below w.heap.size w wr) ∧ Hid (Seen wr w.heap.size n2 od k) ∧ Hid (OrdTo n2 nm od k))
      case atStart =>
        refine ⟨0, Nat.zero_le _, rfl, rfl, by omega, (Below.refl _ _).alloc (Nat.le_refl _) _, ?_, (⟨fun i hi => by omega, fun i j hi => by omega, fun i hi => by omega⟩ : OrdTo n2 nm od 0)⟩
        have := Own.made w #[Value.bool false] (n2 * 1) 4
        rw [Nat.mul_one] at this
        exact (⟨_, this, fun p hp => ⟨false, by simp [Nat.mod_one]⟩, fun i hi => by omega⟩ : Seen _ _ n2 od 0)
      case round =>
        obtain ⟨k, hk, rfl, rfl, hgh, hb, hS, hA⟩ := hrel
        by_cases hlt : k < n2
        · have hp1 := plN_wrap (od k)
          have d2 : wr.cell? ⟨b2, o2 + k, none⟩ = some (.int .u16 (od k)) := by rw [hb.out.cell hb2]; exact H2.out k hlt
          by_cases hpn : plN (od k) < n2
          · obtain ⟨f, hO, hfb, hft⟩ := hS.out
            obtain ⟨bv, hbv⟩ := hfb _ hpn
            have e0 := hO.cell _ hpn
            have t0 := hO.thaw (plN (od k))
            rw [hbv] at e0
            have hpn2 : ¬ n2 ≤ plN (od k) := by omega
            cases bv with
            | true =>
              go_wp2
              go_ret
              exact ⟨⟨false, rfl, (fun h => by cases h)⟩, hb.out⟩
            | false =>
              have hnew : ∀ i, i < k → plN (od i) ≠ plN (od k) := by
                intro i hi e
                have := hft i hi
                rw [e, hbv] at this
                cases this
              have HN : Hid (∀ i, i < k → plN (od i) ≠ plN (od k)) := hnew
              clear hnew hft hfb hbv hO
              rcases H0.out with e1 | ⟨b0, o0, ha0, hb0, hc0⟩
              · omega
              subst ha0
              have HC0 : Hid (∀ i, i < n2 → w.cell? ⟨b0, o0 + i, none⟩ = some (.string (nm i))) := hc0
              clear hc0
              have g0 := HS.out _ hpn
              have hne0 : b0 ≠ w.heap.size := by omega
              by_cases hk0 : k = 0
              · have hpv : prevOf od k = -1 := by rw [hk0]; rfl
                rw [hpv]
                have HK : Hid (k = 0) := hk0
                clear hk0 hpv
                go_wp2
                have bW : Hid (Below w.heap.size w (wr.setCell ⟨w.heap.size, plN (od k), none⟩ (.bool true))) := hb.out.setCell (Nat.le_refl _) _
                have sW : Hid (Seen (wr.setCell ⟨w.heap.size, plN (od k), none⟩ (.bool true)) w.heap.size n2 od (k + 1)) := hS.out.set hpn
                clear hS hb d2 e0 t0
                generalize wr.setCell ⟨w.heap.size, plN (od k), none⟩ (.bool true) = W at *
                have d0 : W.cell? ⟨b0, o0 + plN (od k), none⟩ = some (.string (nm (plN (od k)))) := by rw [bW.out.cell hb0]; exact HC0.out _ hpn
                go_quiet (fail)
                go_wp2
                go_roundg (n2 - (k + 1))
                case measure => omega
                case rel =>
                  exact ⟨k + 1, by omega, by go_num, by simp [prevOf], Nat.le_refl _, below_drewN bW.out _, sW.out.drewN _, hA.out.step hpn HN.out (fun i hi => by have := HK.out; omega)⟩
              · have hpv : prevOf od k = (plN (od (k - 1)) : Int) := by simp [prevOf, hk0]
                rw [hpv]
                have hq := hA.out.1 (k - 1) (by omega)
                have g1 := HS.out _ hq
                clear hpv
                go_wp2
                have bW : Hid (Below w.heap.size w (wr.setCell ⟨w.heap.size, plN (od k), none⟩ (.bool true))) := hb.out.setCell (Nat.le_refl _) _
                have sW : Hid (Seen (wr.setCell ⟨w.heap.size, plN (od k), none⟩ (.bool true)) w.heap.size n2 od (k + 1)) := hS.out.set hpn
                clear hS hb d2 e0 t0
                generalize wr.setCell ⟨w.heap.size, plN (od k), none⟩ (.bool true) = W at *
                have d0 : W.cell? ⟨b0, o0 + plN (od k), none⟩ = some (.string (nm (plN (od k)))) := by rw [bW.out.cell hb0]; exact HC0.out _ hpn
                have d1 : W.cell? ⟨b0, o0 + plN (od (k - 1)), none⟩ = some (.string (nm (plN (od (k - 1))))) := by rw [bW.out.cell hb0]; exact HC0.out _ hq
                go_quiet ((go_at_call 8; exact Calls.quiet_of (rbCmp_any _ _ _ g1 g0)))
                go_wp2
                · go_ret
                  exact ⟨⟨false, rfl, (fun h => by cases h)⟩, below_drewN bW.out _⟩
                · have hlt0 : cmpB (nm (plN (od (k - 1)))) (nm (plN (od k))) < 0 := by assumption
                  go_roundg (n2 - (k + 1))
                  case measure => omega
                  case rel =>
                    exact ⟨k + 1, by omega, by go_num, by simp [prevOf], Nat.le_refl _, below_drewN bW.out _, sW.out.drewN _, hA.out.step hpn HN.out (fun i hi => by rw [show i = k - 1 by omega]; exact hlt0)⟩
          · go_wp2
            go_ret
            exact ⟨⟨false, rfl, (fun h => by cases h)⟩, hb.out⟩
        · obtain rfl : k = n2 := by omega
          go_wp2
          go_ret
          exact ⟨⟨true, rfl, fun _ => ⟨rfl, rfl, hA.out⟩⟩, hb.out⟩
    · go_enter Try.func6, Try.ntmps6
      go_wp2
      go_ret
      exact ⟨⟨false, rfl, (fun h => by cases h)⟩, Below.refl _ _⟩
  · go_enter Try.func6, Try.ntmps6
    go_wp2
    go_ret
    exact ⟨⟨false, rfl, (fun h => by cases h)⟩, Below.refl _ _⟩

end Go.Proofs.Qxb6608767a
