import Derived.Test.Qxb6613227aW1
import Derived.LaidEqlPtr
namespace Go.Proofs.Qxb6613227a
open Go.RowKit
set_option linter.unusedSimpArgs false
set_option linter.unusedVariables false

/-- the pointer to the x-th aspect of the pool whose first lies at G -/
def pv (G x : Nat) : Value := .pointer (some ⟨G + x, 0, none⟩)
theorem pv_one (G x : Nat) : (pv G x).oneCell' = true := rfl

/-- the pool: N blocks from G on, an aspect each, 'Fixed' as C has it -/
def Pool (w : World) (G N : Nat) (C : Nat → Bool) : Prop := ∀ i, i < N → ∃ cs t, w.heap[G + i]? = some (.cells cs t (0, 0)) ∧ cs[10]? = some (.bool (C i))
theorem Pool.below {w w' : World} {B G N : Nat} {C : Nat → Bool} (h : Pool w G N C) (k : Below B w w') (hB : ∀ i, i < N → G + i < B) : Pool w' G N C := fun i hi => by
  obtain ⟨cs, t, h1, h2⟩ := h i hi
  exact ⟨cs, t, by rw [k.block (G + i) (hB i hi)]; exact h1, h2⟩
theorem Pool.lt {w : World} {G N : Nat} {C : Nat → Bool} (h : Pool w G N C) (i : Nat) (hi : i < N) : G + i < w.heap.size := by
  obtain ⟨cs, t, h1, _⟩ := h i hi
  exact (Array.getElem?_eq_some_iff.1 h1).1
theorem Pool.fixed {w : World} {G N : Nat} {C : Nat → Bool} (h : Pool w G N C) (i : Nat) (hi : i < N) : w.cell? ⟨G + i, 10, none⟩ = some (.bool (C i)) := by
  obtain ⟨cs, t, h1, h2⟩ := h i hi
  simp [World.cell?, h1, h2]
theorem info46 : ∃ j, Try.prog.info? 46 = some j ∧ j.size ≠ 0 := by
  have h : ((Try.prog.info? 46).map fun j => j.size == 13) = some true := by kernel_rfl
  obtain ⟨j, hj, e⟩ := Option.map_eq_some_iff.1 h
  exact ⟨j, hj, fun e2 => by rw [e2] at e; cases e⟩
theorem ptr_same (w : World) (a : Addr) : (binOp .eql 30 (.pointer (some a)) (.pointer (some a))).run Try.prog w = .ok (.bool true) w := by
  obtain ⟨j, hj, _⟩ := info46
  exact run_eql_ptr_same w a Try.underlying30 hj
theorem ptr_other {w : World} {G N : Nat} {C : Nat → Bool} (h : Pool w G N C) {x y : Nat} (hx : x < N) (hy : y < N) (e : x ≠ y) :
    (binOp .eql 30 (.pointer (some ⟨G + x, 0, none⟩)) (.pointer (some ⟨G + y, 0, none⟩))).run Try.prog w = .ok (.bool false) w := by
  obtain ⟨j, hj, hs⟩ := info46
  obtain ⟨_, _, h1, _⟩ := h x hx
  obtain ⟨_, _, h2, _⟩ := h y hy
  refine run_eql_ptr_other w Try.underlying30 hj hs ?_ h1 h2
  intro e2
  injection e2 with e3
  exact e (by omega)

/-- what Index answers -/
def IdxIs (b : Bool) (r : Int) : Prop := (0 ≤ r ∧ b = true) ∨ (r = -1 ∧ b = false)

set_option maxHeartbeats 400000 in
theorem index_any (a : Option Addr) (n c G : Nat) (f : Nat → Nat) (x : Nat) (w : World) (hn : n ≤ maxLen) (h0 : Rd w a n (fun i => pv G (f i))) {N : Nat} {C : Nat → Bool} (hP : Pool w G N C) (hf : ∀ i, i < n → f i < N) (hx : x < N) :
    Calls Try.prog 20 #[.slice a n c, .pointer (some ⟨G + x, 0, none⟩)] w fun e w' => SaysI e (IdxIs (hasN f x n)) ∧ ∃ m, w' = w.drewN m := by
  have H0 : Hid (Rd w a n (fun i => pv G (f i))) := h0
  have HP : Hid (Pool w G N C) := hP
  have HF : Hid (∀ i, i < n → f i < N) := hf
  have HX : Hid (x < N) := hx
  clear h0 hP hf hx
  unfold maxLen at hn
  go_enter Try.func20, Try.ntmps20
  go_wp2
  go_loopg [8] n (fun kx s wr => ∃ k : Nat, k ≤ n ∧ s = .int .i64 k ∧ n - k ≤ kx ∧ Hid (∀ i, i < k → f i ≠ x) ∧ ∃ m, wr = w.drewN m)
  case atStart => exact ⟨0, Nat.zero_le _, rfl, by omega, (fun i hi => by omega : ∀ i, i < 0 → f i ≠ x), 0, rfl⟩
  case round =>
    obtain ⟨k, hk, rfl, hgh, hA, m, rfl⟩ := hrel
    by_cases hlt : k < n
    · rcases H0.out with e0 | ⟨b0, o0, ha0, hb0, hc0⟩
      · omega
      have d0 : w.cell? ⟨b0, o0 + k, none⟩ = some (.pointer (some ⟨G + f k, 0, none⟩)) := hc0 k hlt
      subst ha0
      clear hc0
      by_cases h1 : f k = x
      · have h1i : x = f k := h1.symm
        have HT : Hid (hasN f x n = true) := (hasN_iff f x n).2 ⟨k, hlt, h1⟩
        rw [h1] at d0
        have q : (binOp .eql 30 (.pointer (some ⟨G + x, 0, none⟩)) (.pointer (some ⟨G + x, 0, none⟩))).run Try.prog (w.drewN m) = .ok (.bool true) (w.drewN m) := ptr_same _ _
        clear h1 h1i
        go_wp2
        go_ret
        exact ⟨⟨_, rfl, .inl ⟨by omega, HT.out⟩⟩, _, rfl⟩
      · have q : (binOp .eql 30 (.pointer (some ⟨G + x, 0, none⟩)) (.pointer (some ⟨G + f k, 0, none⟩))).run Try.prog (w.drewN m) = .ok (.bool false) (w.drewN m) := ptr_other (w := w.drewN m) (C := C) (N := N) HP.out HX.out (HF.out k hlt) (fun h => h1 h.symm)
        have HN : Hid (f k ≠ x) := h1
        clear h1
        go_wp2
        go_roundg (n - (k + 1))
        case measure => omega
        case rel =>
          refine ⟨k + 1, by omega, by go_num, Nat.le_refl _, ?_, _, rfl⟩
          have hA' : ∀ i, i < k + 1 → f i ≠ x := by
            intro i hi
            by_cases e : i = k
            · subst e; exact HN.out
            · exact hA.out i (by omega)
          exact hA'
    · have : k = n := by omega
      subst this
      go_wp2
      go_ret
      exact ⟨⟨_, rfl, .inr ⟨rfl, hasN_none hA.out⟩⟩, _, rfl⟩

set_option maxHeartbeats 400000 in
theorem contains_any (a : Option Addr) (n c G : Nat) (f : Nat → Nat) (x : Nat) (w : World) (hn : n ≤ maxLen) (h0 : Rd w a n (fun i => pv G (f i))) {N : Nat} {C : Nat → Bool} (hP : Pool w G N C) (hf : ∀ i, i < n → f i < N) (hx : x < N) :
    Calls Try.prog 18 #[.slice a n c, .pointer (some ⟨G + x, 0, none⟩)] w fun e w' => e = .returned (.bool (hasN f x n)) ∧ ∃ m, w' = w.drewN m := by
  have HI := index_any a n c G f x w hn h0 hP hf hx
  generalize hasN f x n = b at HI ⊢
  clear h0 hP hf hx
  go_enter Try.func18, Try.ntmps18
  go_wp2_with fail
  go_at_call 20
  refine HI.mono ?_
  rintro e w' ⟨⟨r, rfl, hr⟩, m, rfl⟩
  rcases hr with ⟨h1, rfl⟩ | ⟨rfl, rfl⟩
  · go_wp2
    go_ret
    exact ⟨rfl, _, rfl⟩
  · go_wp2
    go_ret
    exact ⟨rfl, _, rfl⟩

/-- the x-th counts and is not among the first n of f -/
def badB (C : Nat → Bool) (f : Nat → Nat) (n x : Nat) : Bool := C x && !hasN f x n

set_option maxHeartbeats 400000 in
theorem fixed_any (G x : Nat) (w : World) {N : Nat} {C : Nat → Bool} (hP : Pool w G N C) (hx : x < N) :
    Calls Try.prog 15 #[.pointer (some ⟨G + x, 0, none⟩)] w fun e w' => e = .returned (.bool (C x)) ∧ ∃ m, w' = w.drewN m := by
  have hc := hP.fixed x hx
  clear hP hx
  go_enter Try.func15, Try.ntmps15
  go_wp2
  go_ret
  exact ⟨rfl, 0, rfl⟩

set_option maxHeartbeats 400000 in
theorem bad_any (a : Option Addr) (n c G : Nat) (f : Nat → Nat) (x bc bw : Nat) (w : World) (hn : n ≤ maxLen) (h0 : Rd w a n (fun i => pv G (f i))) {N : Nat} {C : Nat → Bool} (hP : Pool w G N C) (hf : ∀ i, i < n → f i < N) (hx : x < N)
    (h1 : w.cell? ⟨bc, 0, none⟩ = some (.func (.func 15) #[] #[])) (h2 : w.cell? ⟨bw, 1, none⟩ = some (.slice a n c)) :
    Calls Try.prog 17 #[.pointer (some ⟨G + x, 0, none⟩), .pointer (some ⟨bc, 0, none⟩), .pointer (some ⟨bw, 0, none⟩)] w fun e w' => e = .returned (.bool (badB C f n x)) ∧ ∃ m, w' = w.drewN m := by
  have c1 := fixed_any G x w hP hx
  have c2 : ∀ m, Calls Try.prog 18 #[.slice a n c, .pointer (some ⟨G + x, 0, none⟩)] (w.drewN m) fun e w' => e = .returned (.bool (hasN f x n)) ∧ ∃ k, w' = (w.drewN m).drewN k := fun m => contains_any a n c G f x (w.drewN m) hn h0 hP hf hx
  have HB : Hid (badB C f n x = (C x && !hasN f x n)) := rfl
  generalize badB C f n x = B at *
  generalize hasN f x n = h at *
  generalize C x = d at *
  clear h0 hP hf hx
  cases d with
  | false =>
    go_enter Try.func17, Try.ntmps17
    go_wp2_with (first | (go_at_call 15; refine c1.mono ?_; rintro e w' ⟨rfl, m, rfl⟩))
    go_ret
    exact ⟨ret_bool HB.out.symm, _, rfl⟩
  | true =>
    go_enter Try.func17, Try.ntmps17
    go_wp2_with (first | (go_at_call 15; refine c1.mono ?_; rintro e w' ⟨rfl, m, rfl⟩) | (go_at_call 18; refine (c2 _).mono ?_; rintro e w' ⟨rfl, m2, rfl⟩))
    go_ret
    exact ⟨ret_bool HB.out.symm, _, rfl⟩

end Go.Proofs.Qxb6613227a
