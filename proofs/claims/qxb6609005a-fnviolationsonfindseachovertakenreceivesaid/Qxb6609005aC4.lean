import Derived.Test.Qxb6609005aC3
namespace Go.Proofs.Qxb6609005a
open Go.RowKit Go.WideMaps Go.Maps Go.Sort
set_option linter.unusedSimpArgs false
set_option linter.unusedVariables false
set_option linter.unusedSectionVars false

/-- the number of an event's sender (-1: not of the log), 0 where it is no receive -/
def ixZ (nm : Nat → ByteArray) (n : Nat) (s : ByteArray) : Int := match idxOf nm s n with | some i => (i : Int) | none => -1
def Ev.ix (nm : Nat → ByteArray) (n : Nat) (e : Ev) : Int := if e.rv = true then ixZ nm n e.host else 0
/-- its send's count of its sender -/
def Ev.on (nm : Nat → ByteArray) (n : Nat) (e : Ev) : Int := if e.rv = true then cH nm n e.clk e.host else 0

theorem ixZ_range (nm : Nat → ByteArray) (n : Nat) (s : ByteArray) (hn : n ≤ 131072) : -1 ≤ ixZ nm n s ∧ ixZ nm n s < 131072 := by
  unfold ixZ
  cases h : idxOf nm s n with
  | none => simp
  | some i => have := (idxOf_some h).1; simp only; omega
theorem ix_range (nm : Nat → ByteArray) (n : Nat) (e : Ev) (hn : n ≤ 131072) : -1 ≤ e.ix nm n ∧ e.ix nm n < 131072 := by
  unfold Ev.ix
  split
  · exact ixZ_range nm n e.host hn
  · omega
theorem cntI_ixZ (e : Ev) (nm : Nat → ByteArray) (n : Nat) (s : ByteArray) : cntI e (ixZ nm n s) = cH nm n e.clk s := cntI_idx e nm n s

/-- receive j overtakes receive i -/
def ovB (nm : Nat → ByteArray) (n : Nat) (ev : Nat → Ev) (fifo : Bool) (i j : Nat) : Bool :=
  decide (i < j) && (ev i).rv && (ev j).rv && (if fifo then decide ((ev j).host = (ev i).host) && decide ((ev j).on nm n ≤ (ev i).on nm n) else decide ((ev j).on nm n ≤ cntI (ev i) ((ev j).ix nm n)))

/-- what is told of the events that came in, for the walks behind the tests -/
structure EvsOk (w : World) (a1 : Option Addr) (m n : Nat) (ev : Nat → Ev) : Prop where
  at_ : EvsAt w a1 m ev
  len : ∀ i, i < m → (ev i).len ≤ 131072
  ok : ∀ i, i < m → (ev i).rv = true → ClockOk n (ev i).z (ev i).own (ev i).len (ev i).hs (ev i).cn
theorem EvsOk.below {w w' : World} {a1 : Option Addr} {m n : Nat} {ev : Nat → Ev} (h : EvsOk w a1 m n ev) (k : Below w.heap.size w w') : EvsOk w' a1 m n ev := ⟨h.at_.below k, h.len, h.ok⟩
theorem EvsOk.count {w : World} {a1 : Option Addr} {m n : Nat} {ev : Nat → Ev} (h : EvsOk w a1 m n ev) {i : Nat} (hi : i < m) (hr : (ev i).rv = true) (x : Int) (hx : -1 ≤ x ∧ x < 131072) :
    Calls Try.prog 32 #[.agg #[.string (ev i).host, .int .u64 (ev i).lam, .bool (ev i).z, .int .u32 (ev i).own, .int .u32 (ev i).nn, .slice (ev i).a (ev i).len (ev i).cap], .int .i64 x] w fun e w' => e = .returned (.int .u64 (cntI (ev i) x)) ∧ Below w.heap.size w w' :=
  countAt_any (ev i) n x w hx (h.len i hi) (h.at_.raw i hi) (h.ok i hi hr)

theorem host_beq (a b : ByteArray) : (a.toList == b.toList) = decide (a = b) := by
  cases h : (a.toList == b.toList) with
  | true => rw [toList_yes h]; simp
  | false => have := toList_no h; simp [this]

set_option maxRecDepth 100000 in
set_option maxHeartbeats 1000000 in
theorem overtakes_any (nm : Nat → ByteArray) (n : Nat) (a1 : Option Addr) (m c1 : Nat) (ev : Nat → Ev) (ai ao : Option Addr) (ci co : Nat) (fifo : Bool) (i j : Nat) (w : World) (hn : n ≤ 131072) (hm : m ≤ 1024) (h1 : EvsOk w a1 m n ev)
    (hi0 : Rd w ai m (fun k => .int .i64 ((ev k).ix nm n))) (ho0 : Rd w ao m (fun k => .int .u64 ((ev k).on nm n))) (hi : i < m) (hj : j < m) :
    Calls Try.prog 24 #[.slice a1 m c1, .slice ai m ci, .slice ao m co, .bool fifo, .int .i64 i, .int .i64 j] w fun e w' => e = .returned (.bool (ovB nm n ev fifo i j)) ∧ Below w.heap.size w w' := by
  obtain ⟨b1, o1, rfl, X⟩ := h1.at_.at hi
  obtain ⟨b1', o1', ha1, Y⟩ := h1.at_.at hj
  obtain ⟨rfl, rfl⟩ : b1 = b1' ∧ o1 = o1' := by
    have := Option.some.inj ha1
    injection this with e1 e2
    exact ⟨e1, e2⟩
  rcases hi0 with e0 | ⟨bi, oi, rfl, hbi, hci⟩
  · omega
  rcases ho0 with e0 | ⟨bo, oo, rfl, hbo, hco⟩
  · omega
  have ij : w.cell? ⟨bi, oi + j, none⟩ = some (.int .i64 ((ev j).ix nm n)) := hci j hj
  have oj : w.cell? ⟨bo, oo + j, none⟩ = some (.int .u64 ((ev j).on nm n)) := hco j hj
  have oi' : w.cell? ⟨bo, oo + i, none⟩ = some (.int .u64 ((ev i).on nm n)) := hco i hi
  clear hci hco
  have HC : Hid ((ev i).rv = true → ∀ dd os, Calls Try.prog 32 #[.agg #[.string (ev i).host, .int .u64 (ev i).lam, .bool (ev i).z, .int .u32 (ev i).own, .int .u32 (ev i).nn, .slice (ev i).a (ev i).len (ev i).cap], .int .i64 ((ev j).ix nm n)] (grow (redrawn w dd) os) fun e w'' => e = .returned (.int .u64 (cntI (ev i) ((ev j).ix nm n))) ∧ ∃ p : Regrown, w'' = grow (redrawn w p.d) p.os) :=
    fun hr dd os => Calls.regrown_of ((h1.below (below_regrown w dd os)).count hi hr _ (ix_range nm n (ev j) hn))
  have BR : Hid (Below w.heap.size w w) := Below.refl _ _
  have BD : Hid (∀ k, Below w.heap.size w (w.drewN k)) := fun k => below_drewN (Below.refl _ _) _
  have HO : Hid (ovB nm n ev fifo i j = _) := rfl
  unfold ovB at HO ⊢
  clear HO h1 ha1
  by_cases hij : i < j
  · rw [decide_eq_true hij]
    have hij' : ¬ (j : Int) ≤ (i : Int) := by omega
    cases hri : (ev i).rv with
    | false =>
      have x0 := X.c0
      rw [hri] at x0
      clear X Y hri
      go_enter Try.func24, Try.ntmps24
      go_wp2
      go_ret
      exact ⟨rfl, BR.out⟩
    | true =>
      have x0 := X.c0
      rw [hri] at x0
      cases hrj : (ev j).rv with
      | false =>
        have y0 := Y.c0
        rw [hrj] at y0
        clear X Y hri hrj
        go_enter Try.func24, Try.ntmps24
        go_wp2
        go_ret
        exact ⟨rfl, BR.out⟩
      | true =>
        have y0 := Y.c0
        rw [hrj] at y0
        cases fifo with
        | true =>
          simp only [if_true, Bool.true_and]
          have x1 := X.c1
          have y1 := Y.c1
          rw [← host_beq]
          clear X Y hri hrj
          generalize (ev j).on nm n = onj at *
          generalize (ev i).on nm n = oni at *
          generalize (ev j).host = hj' at *
          generalize (ev i).host = hi' at *
          cases hq : (hj'.toList == hi'.toList) with
          | false =>
            go_enter Try.func24, Try.ntmps24
            go_wp2
            go_quiet (fail)
            go_wp2
            go_ret
            exact ⟨by first | rfl | simp, BD.out _⟩
          | true =>
            go_enter Try.func24, Try.ntmps24
            go_wp2
            go_quiet (fail)
            go_wp2
            go_ret
            exact ⟨by rw [Bool.true_and]; rfl, BD.out _⟩
        | false =>
          simp only [Bool.false_eq_true, if_false, Bool.true_and]
          have CC : Hid _ := HC.out hri
          have x0' := fun dd os => cell_regrown X.c0 dd os
          have x1 := fun dd os => cell_regrown X.c1 dd os
          have x2 := fun dd os => cell_regrown X.c2 dd os
          have x3 := fun dd os => cell_regrown X.c3 dd os
          have x4 := fun dd os => cell_regrown X.c4 dd os
          have x5 := fun dd os => cell_regrown X.c5 dd os
          have x6 := fun dd os => cell_regrown X.c6 dd os
          have oj2 := fun dd os => cell_regrown oj dd os
          have ij2 := fun dd os => cell_regrown ij dd os
          clear X Y hri hrj HC x0'
          generalize cntI (ev i) ((ev j).ix nm n) = cv at *
          generalize (ev j).on nm n = onj at *
          generalize (ev j).ix nm n = ixj at *
          generalize ev i = ei at *
          go_enter Try.func24, Try.ntmps24
          go_wp2
          refine wp_region_quiet_below (by kernel_rfl) (by kernel_rfl) ?_
          repeat (quiet_step (first | (go_at_call 32; exact CC.out _ _)))
          refine wpQuiet_nil ?_
          intro _ hw'
          obtain ⟨⟨dq, osq⟩, hw''⟩ := hw'
          rw [hw'']
          clear hw''
          go_wp2
          go_ret
          exact ⟨rfl, below_regrown w dq osq⟩
  · have hij' : (j : Int) ≤ (i : Int) := by omega
    rw [decide_eq_false hij]
    simp only [Bool.false_and]
    clear X Y
    go_enter Try.func24, Try.ntmps24
    go_wp2
    go_ret
    exact ⟨rfl, BR.out⟩

end Go.Proofs.Qxb6609005a
