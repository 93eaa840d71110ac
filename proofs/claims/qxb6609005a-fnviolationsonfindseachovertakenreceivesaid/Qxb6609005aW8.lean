import Derived.Test.Qxb6609005aW7
namespace Go.Proofs.Qxb6609005a
open Go.RowKit Go.WideMaps Go.Maps Go.Sort
set_option linter.unusedSimpArgs false
set_option linter.unusedVariables false

/-- an event of the log in memory, with all that its clock's count wants -/
structure EvLog (w : World) (eb : Nat) (host : ByteArray) (lam : Int) (hp : Option Addr) (c : Clk) (ka : Option Addr) (kc : Nat) (bm n : Nat) (nm : Nat → ByteArray) : Prop where
  ev : EvAt w eb host lam hp c ka kc
  hosts : HostsAt w hp bm
  zero : hp = none → c = zeroClk
  len : c.len ≤ 131072
  asc : ∀ j, j + 1 < c.len → c.hs j < c.hs (j + 1)
  pos : ∀ j, j < c.len → 0 < c.cn j
  fits : c.Fits
  host : host.size ≤ maxLen
theorem EvLog.below {w w' : World} {eb : Nat} {host : ByteArray} {lam : Int} {hp : Option Addr} {c : Clk} {ka : Option Addr} {kc bm n : Nat} {nm : Nat → ByteArray} (h : EvLog w eb host lam hp c ka kc bm n nm) (k : Below w.heap.size w w') : EvLog w' eb host lam hp c ka kc bm n nm :=
  ⟨h.ev.below k, h.hosts.below k, h.zero, h.len, h.asc, h.pos, h.fits, h.host⟩

set_option maxRecDepth 100000 in
set_option maxHeartbeats 1000000 in
theorem knows_any (ey ex : Nat) (hy hx : ByteArray) (ly lx : Int) (py px : Option Addr) (cy cx : Clk) (kay kax : Option Addr) (kcy kcx bm n : Nat) (nm : Nat → ByteArray) (w : World)
    (hM : NumMap w bm nm n) (Y : EvLog w ey hy ly py cy kay kcy bm n nm) (X : EvLog w ex hx lx px cx kax kcx bm n nm) :
    Calls Try.prog 28 #[.pointer (some ⟨ey, 0, none⟩), .pointer (some ⟨ex, 0, none⟩)] w fun e w' => e = .returned (.bool (mostB cx cy && decide (cH nm n cx hy < cH nm n cy hy))) ∧ Below w.heap.size w w' := by
  have C33 : Hid (∀ dd os, Calls Try.prog 33 #[.agg #[.pointer px, .int .u32 cx.own, .int .u32 cx.n, .slice kax cx.len kcx], .agg #[.pointer py, .int .u32 cy.own, .int .u32 cy.n, .slice kay cy.len kcy]] (grow (redrawn w dd) os) fun e w'' => e = .returned (.bool (mostB cx cy)) ∧ ∃ p : Regrown, w'' = grow (redrawn w p.d) p.os) :=
    fun dd os => Calls.regrown_of (atMost_any px py cx cy kax kay kcx kcy _ X.len Y.len (X.ev.kn.below (below_regrown w dd os)) (Y.ev.kn.below (below_regrown w dd os)) X.asc Y.asc X.pos)
  have CX : Hid (∀ dd os, Calls Try.prog 34 #[.agg #[.pointer px, .int .u32 cx.own, .int .u32 cx.n, .slice kax cx.len kcx], .string hy] (grow (redrawn w dd) os) fun e w'' => e = .returned (.int .u64 (cH nm n cx hy)) ∧ ∃ p : Regrown, w'' = grow (redrawn w p.d) p.os) :=
    fun dd os => Calls.regrown_of (Count_any px cx kax kcx hy bm n nm _ (X.hosts.below (below_regrown w dd os)) X.zero (hM.below (below_regrown w dd os)) X.len (X.ev.kn.below (below_regrown w dd os)) X.asc X.fits Y.host)
  have CY : Hid (∀ dd os, Calls Try.prog 34 #[.agg #[.pointer py, .int .u32 cy.own, .int .u32 cy.n, .slice kay cy.len kcy], .string hy] (grow (redrawn w dd) os) fun e w'' => e = .returned (.int .u64 (cH nm n cy hy)) ∧ ∃ p : Regrown, w'' = grow (redrawn w p.d) p.os) :=
    fun dd os => Calls.regrown_of (Count_any py cy kay kcy hy bm n nm _ (Y.hosts.below (below_regrown w dd os)) Y.zero (hM.below (below_regrown w dd os)) Y.len (Y.ev.kn.below (below_regrown w dd os)) Y.asc Y.fits Y.host)
  have y0 := fun dd os => cell_regrown Y.ev.h0 dd os
  have y1 := fun dd os => cell_regrown Y.ev.h1 dd os
  have y2 := fun dd os => cell_regrown Y.ev.h2 dd os
  have y3 := fun dd os => cell_regrown Y.ev.h3 dd os
  have y4 := fun dd os => cell_regrown Y.ev.h4 dd os
  have x1 := fun dd os => cell_regrown X.ev.h1 dd os
  have x2 := fun dd os => cell_regrown X.ev.h2 dd os
  have x3 := fun dd os => cell_regrown X.ev.h3 dd os
  have x4 := fun dd os => cell_regrown X.ev.h4 dd os
  clear hM Y X
  generalize cH nm n cx hy = vx at *
  generalize cH nm n cy hy = vy at *
  cases hq : mostB cx cy with
  | true =>
    rw [hq] at C33
    clear hq
    go_enter Try.func28, Try.ntmps28
    go_wp2
    refine wp_region_quiet_below (by kernel_rfl) (by kernel_rfl) ?_
    repeat (quiet_step (first | (go_at_call 33; exact C33.out _ _) | (go_at_call_of 34 (Value.pointer px); exact CX.out _ _) | (go_at_call_of 34 (Value.pointer py); exact CY.out _ _)))
    refine wpQuiet_nil ?_
    intro _ hw'
    obtain ⟨⟨dq, osq⟩, hw''⟩ := hw'
    rw [hw'']
    clear hw''
    go_wp2
    go_ret
    exact ⟨by simp, below_regrown w dq osq⟩
  | false =>
    rw [hq] at C33
    clear hq
    go_enter Try.func28, Try.ntmps28
    go_wp2
    refine wp_region_quiet_below (by kernel_rfl) (by kernel_rfl) ?_
    repeat (first | go_big_quiet_step (exact C33.out _ _) | quiet_step (exact C33.out _ _))
    refine wpQuiet_nil ?_
    intro _ hw'
    obtain ⟨⟨dq, osq⟩, hw''⟩ := hw'
    rw [hw'']
    clear hw''
    go_wp2
    go_ret
    exact ⟨by simp, below_regrown w dq osq⟩

end Go.Proofs.Qxb6609005a
