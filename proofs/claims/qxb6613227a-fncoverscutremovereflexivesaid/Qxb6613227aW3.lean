import Derived.Test.Qxb6613227aW2
namespace Go.Proofs.Qxb6613227a
open Go.RowKit
set_option linter.unusedSimpArgs false
set_option linter.unusedVariables false

/-- the first n of f cover the first k of e -/
def covN (C : Nat → Bool) (f : Nat → Nat) (n : Nat) (e : Nat → Nat) : Nat → Bool
  | 0 => true
  | k + 1 => covN C f n e k && !badB C f n (e k)
theorem covN_iff (C : Nat → Bool) (f : Nat → Nat) (n : Nat) (e : Nat → Nat) : ∀ k, covN C f n e k = true ↔ ∀ i, i < k → badB C f n (e i) = false
  | 0 => by simp [covN]
  | k + 1 => by
    rw [covN, Bool.and_eq_true, covN_iff C f n e k, Bool.not_eq_true']
    constructor
    · rintro ⟨h1, h2⟩ i hi
      by_cases h : i = k
      · subst h; exact h2
      · exact h1 i (by omega)
    · intro h
      exact ⟨fun i hi => h i (by omega), h k (by omega)⟩

/-- what the closure of covers leans on -/
structure Lean (w : World) (a : Option Addr) (n c G : Nat) (f : Nat → Nat) (N : Nat) (C : Nat → Bool) (bc bw : Nat) : Prop where
  ln : n ≤ maxLen
  rd : Rd w a n (fun i => pv G (f i))
  pool : Pool w G N C
  ids : ∀ i, i < n → f i < N
  cc : w.cell? ⟨bc, 0, none⟩ = some (.func (.func 15) #[] #[])
  cw : w.cell? ⟨bw, 1, none⟩ = some (.slice a n c)

set_option maxHeartbeats 400000 in
theorem indexFunc_any (ae : Option Addr) (ne ce : Nat) (e : Nat → Nat) (a : Option Addr) (n c G : Nat) (f : Nat → Nat) (bc bw : Nat) (w : World) {N : Nat} {C : Nat → Bool} (hL : Lean w a n c G f N C bc bw)
    (hne : ne ≤ maxLen) (he : Rd w ae ne (fun i => pv G (e i))) (hei : ∀ i, i < ne → e i < N) :
    Calls Try.prog 19 #[.slice ae ne ce, .func (.func 17) #[] #[.pointer (some ⟨bc, 0, none⟩), .pointer (some ⟨bw, 0, none⟩)]] w fun r w' => SaysI r (IdxIs (!covN C f n e ne)) ∧ ∃ m, w' = w.drewN m := by
  have HL : Hid (Lean w a n c G f N C bc bw) := hL
  have HE : Hid (Rd w ae ne (fun i => pv G (e i))) := he
  have HI : Hid (∀ i, i < ne → e i < N) := hei
  clear hL he hei
  unfold maxLen at hne
  go_enter Try.func19, Try.ntmps19
  go_wp2
  go_loopg [8] ne (fun kx s wr => ∃ k : Nat, k ≤ ne ∧ s = .int .i64 k ∧ ne - k ≤ kx ∧ Hid (∀ i, i < k → badB C f n (e i) = false) ∧ ∃ m, wr = w.drewN m)
  case atStart => exact ⟨0, Nat.zero_le _, rfl, by omega, (fun i hi => by omega : ∀ i, i < 0 → badB C f n (e i) = false), 0, rfl⟩
  case round =>
    obtain ⟨k, hk, rfl, hgh, hA, m, rfl⟩ := hrel
    by_cases hlt : k < ne
    · rcases HE.out with e0 | ⟨b0, o0, ha0, hb0, hc0⟩
      · omega
      have d0 : w.cell? ⟨b0, o0 + k, none⟩ = some (.pointer (some ⟨G + e k, 0, none⟩)) := hc0 k hlt
      subst ha0
      clear hc0
      have cB : Calls Try.prog 17 #[.pointer (some ⟨G + e k, 0, none⟩), .pointer (some ⟨bc, 0, none⟩), .pointer (some ⟨bw, 0, none⟩)] (w.drewN m) fun r w' => r = .returned (.bool (badB C f n (e k))) ∧ ∃ q, w' = (w.drewN m).drewN q :=
        bad_any a n c G f (e k) bc bw (w.drewN m) HL.out.ln HL.out.rd HL.out.pool HL.out.ids (HI.out k hlt) HL.out.cc HL.out.cw
      cases hB : badB C f n (e k) with
      | true =>
        rw [hB] at cB
        have HT : Hid (covN C f n e ne = false) := (by
          cases hh : covN C f n e ne with
          | false => rfl
          | true => have := (covN_iff C f n e ne).1 hh k hlt; rw [hB] at this; cases this)
        clear hB
        go_wp2_with (go_at_call 17; refine cB.mono ?_; rintro e w' ⟨rfl, q, rfl⟩)
        go_ret
        exact ⟨⟨_, rfl, .inl ⟨by omega, by rw [HT.out]; rfl⟩⟩, _, rfl⟩
      | false =>
        rw [hB] at cB
        have HN : Hid (badB C f n (e k) = false) := hB
        clear hB
        go_wp2_with (go_at_call 17; refine cB.mono ?_; rintro e w' ⟨rfl, q, rfl⟩)
        go_roundg (ne - (k + 1))
        case measure => omega
        case rel =>
          refine ⟨k + 1, by omega, by go_num, Nat.le_refl _, ?_, _, rfl⟩
          have hA' : ∀ i, i < k + 1 → badB C f n (e i) = false := by
            intro i hi
            by_cases e : i = k
            · subst e; exact HN.out
            · exact hA.out i (by omega)
          exact hA'
    · have : k = ne := by omega
      subst this
      go_wp2
      go_ret
      exact ⟨⟨_, rfl, .inr ⟨rfl, by rw [(covN_iff C f n e k).2 hA.out]; rfl⟩⟩, _, rfl⟩

set_option maxHeartbeats 400000 in
theorem containsFunc_any (ae : Option Addr) (ne ce : Nat) (e : Nat → Nat) (a : Option Addr) (n c G : Nat) (f : Nat → Nat) (bc bw : Nat) (w : World) {N : Nat} {C : Nat → Bool} (hL : Lean w a n c G f N C bc bw)
    (hne : ne ≤ maxLen) (he : Rd w ae ne (fun i => pv G (e i))) (hei : ∀ i, i < ne → e i < N) :
    Calls Try.prog 16 #[.slice ae ne ce, .func (.func 17) #[] #[.pointer (some ⟨bc, 0, none⟩), .pointer (some ⟨bw, 0, none⟩)]] w fun r w' => r = .returned (.bool (!covN C f n e ne)) ∧ ∃ m, w' = w.drewN m := by
  have HI := indexFunc_any ae ne ce e a n c G f bc bw w hL hne he hei
  generalize (!covN C f n e ne) = b at HI ⊢
  clear hL he hei
  go_enter Try.func16, Try.ntmps16
  go_wp2_with fail
  go_at_call 19
  refine HI.mono ?_
  rintro e w' ⟨⟨r, rfl, hr⟩, m, rfl⟩
  rcases hr with ⟨h1, rfl⟩ | ⟨rfl, rfl⟩
  · go_wp2
    go_ret
    exact ⟨rfl, _, rfl⟩
  · go_wp2
    go_ret
    exact ⟨rfl, _, rfl⟩

/-- a slice of drops out of the pool -/
structure Drops (w : World) (a : Option Addr) (n G : Nat) (f : Nat → Nat) (N : Nat) : Prop where
  ln : n ≤ maxLen
  rd : Rd w a n (fun i => pv G (f i))
  ids : ∀ i, i < n → f i < N
theorem Drops.below {w w' : World} {a : Option Addr} {n G N : Nat} {f : Nat → Nat} (h : Drops w a n G f N) (k : Below w.heap.size w w') : Drops w' a n G f N := ⟨h.ln, h.rd.below k, h.ids⟩

set_option maxHeartbeats 400000 in
theorem covers_any (ae : Option Addr) (ne ce : Nat) (e : Nat → Nat) (a : Option Addr) (n c G : Nat) (f : Nat → Nat) (w : World) {N : Nat} {C : Nat → Bool} (hP : Pool w G N C)
    (he : Drops w ae ne G e N) (hf : Drops w a n G f N) :
    Calls Try.prog 14 #[.agg #[.pointer none, .slice ae ne ce, .pointer none], .agg #[.pointer none, .slice a n c, .pointer none], .func (.func 15) #[] #[]] w fun r w' => r = .returned (.bool (covN C f n e ne)) ∧ Below w.heap.size w w' := by
  have hb : Below w.heap.size w (((w.alloc (.cells #[.pointer none, .slice ae ne ce, .pointer none] 50)).alloc (.cells #[.pointer none, .slice a n c, .pointer none] 50)).alloc (.cells #[.func (.func 15) #[] #[]] 51)) :=
    (((Below.refl _ w).alloc (Nat.le_refl _) _).alloc (by simp) _).alloc (by simp; omega) _
  have k0 : (((w.alloc (.cells #[.pointer none, .slice ae ne ce, .pointer none] 50)).alloc (.cells #[.pointer none, .slice a n c, .pointer none] 50)).alloc (.cells #[.func (.func 15) #[] #[]] 51)).cell? ⟨w.heap.size + 1 + 1, 0, none⟩ = some (.func (.func 15) #[] #[]) := by
    rw [show w.heap.size + 1 + 1 = ((w.alloc (.cells #[.pointer none, .slice ae ne ce, .pointer none] 50)).alloc (.cells #[.pointer none, .slice a n c, .pointer none] 50)).heap.size by simp, World.cell?_alloc_new]; rfl
  have k1 : (((w.alloc (.cells #[.pointer none, .slice ae ne ce, .pointer none] 50)).alloc (.cells #[.pointer none, .slice a n c, .pointer none] 50)).alloc (.cells #[.func (.func 15) #[] #[]] 51)).cell? ⟨w.heap.size + 1, 1, none⟩ = some (.slice a n c) := by
    rw [cellA (by simp), show w.heap.size + 1 = (w.alloc (.cells #[.pointer none, .slice ae ne ce, .pointer none] 50)).heap.size by simp, World.cell?_alloc_new]; rfl
  have HC := containsFunc_any ae ne ce e a n c G f (w.heap.size + 1 + 1) (w.heap.size + 1) _ ⟨hf.ln, hf.rd.below hb, hP.below hb (fun i hi => hP.lt i hi), hf.ids, k0, k1⟩ he.ln (he.rd.below hb) he.ids
  have HB : Hid (Below w.heap.size w (((w.alloc (.cells #[.pointer none, .slice ae ne ce, .pointer none] 50)).alloc (.cells #[.pointer none, .slice a n c, .pointer none] 50)).alloc (.cells #[.func (.func 15) #[] #[]] 51))) := hb
  generalize covN C f n e ne = b at HC ⊢
  clear hP he hf hb k0 k1
  go_enter Try.func14, Try.ntmps14
  go_wp2_with (go_at_call 16; refine HC.mono ?_; rintro e w' ⟨rfl, q, rfl⟩)
  go_ret
  exact ⟨ret_bool (by cases b <;> rfl), below_drewN HB.out _⟩

set_option maxHeartbeats 400000 in
theorem zzcovers_any (ae : Option Addr) (ne ce : Nat) (e : Nat → Nat) (a : Option Addr) (n c G : Nat) (f : Nat → Nat) (w : World) {N : Nat} {C : Nat → Bool} (hP : Pool w G N C)
    (he : Drops w ae ne G e N) (hf : Drops w a n G f N) :
    Calls Try.prog 10 #[.slice ae ne ce, .slice a n c] w fun r w' => r = .returned (.bool (covN C f n e ne)) ∧ Below w.heap.size w w' := by
  have HC := covers_any ae ne ce e a n c G f w hP he hf
  generalize covN C f n e ne = b at HC ⊢
  clear hP he hf
  go_enter Try.func10, Try.ntmps10
  go_wp2_with (go_at_call 14; refine HC.mono ?_; rintro e w' ⟨rfl, hb⟩)
  go_ret
  exact ⟨rfl, hb⟩

end Go.Proofs.Qxb6613227a
