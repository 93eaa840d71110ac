import Derived.Test.Qxb6609005aA2
namespace Go.Proofs.Qxb6609005a
open Go.RowKit Go.WideMaps Go.Maps Go.Sort
set_option linter.unusedSimpArgs false
set_option linter.unusedVariables false
set_option linter.unusedSectionVars false

set_option maxRecDepth 100000 in
set_option maxHeartbeats 4000000 in
theorem lam1 (fx fy : Nat) (lx ly : Int) (hx hy : ByteArray) (w : World) (x0 : w.cell? ⟨fx, 0, none⟩ = some (.string hx)) (x5 : w.cell? ⟨fx, 5, none⟩ = some (.int .u64 lx)) (y0 : w.cell? ⟨fy, 0, none⟩ = some (.string hy)) (y5 : w.cell? ⟨fy, 5, none⟩ = some (.int .u64 ly)) (h : decide (lx < ly) = true) :
    Calls Try.prog 40 #[.pointer (some ⟨fx, 0, none⟩), .pointer (some ⟨fy, 0, none⟩)] w fun e w' => e = .returned (.bool true) ∧ ∃ k, w' = w.drewN k := by
  go_enter Try.func40, Try.ntmps40
  go_wp2
  go_quiet (fail)
  go_wp2
  go_ret
  exact ⟨rfl, _, rfl⟩

set_option maxRecDepth 100000 in
set_option maxHeartbeats 4000000 in
theorem lam2 (fx fy : Nat) (lx ly : Int) (hx hy : ByteArray) (w : World) (x0 : w.cell? ⟨fx, 0, none⟩ = some (.string hx)) (x5 : w.cell? ⟨fx, 5, none⟩ = some (.int .u64 lx)) (y0 : w.cell? ⟨fy, 0, none⟩ = some (.string hy)) (y5 : w.cell? ⟨fy, 5, none⟩ = some (.int .u64 ly)) (h : decide (lx < ly) = false) (h2 : (lx == ly) = false) :
    Calls Try.prog 40 #[.pointer (some ⟨fx, 0, none⟩), .pointer (some ⟨fy, 0, none⟩)] w fun e w' => e = .returned (.bool false) ∧ ∃ k, w' = w.drewN k := by
  go_enter Try.func40, Try.ntmps40
  go_wp2
  go_quiet (fail)
  go_wp2
  go_ret
  exact ⟨rfl, _, rfl⟩

set_option maxRecDepth 100000 in
set_option maxHeartbeats 4000000 in
theorem lam3 (fx fy : Nat) (lx ly : Int) (hx hy : ByteArray) (w : World) (x0 : w.cell? ⟨fx, 0, none⟩ = some (.string hx)) (x5 : w.cell? ⟨fx, 5, none⟩ = some (.int .u64 lx)) (y0 : w.cell? ⟨fy, 0, none⟩ = some (.string hy)) (y5 : w.cell? ⟨fy, 5, none⟩ = some (.int .u64 ly)) (h : decide (lx < ly) = false) (h2 : (lx == ly) = true) (h3 : Op.bytesLess hx.toList hy.toList = true) :
    Calls Try.prog 40 #[.pointer (some ⟨fx, 0, none⟩), .pointer (some ⟨fy, 0, none⟩)] w fun e w' => e = .returned (.bool true) ∧ ∃ k, w' = w.drewN k := by
  go_enter Try.func40, Try.ntmps40
  go_wp2
  go_quiet (fail)
  go_wp2
  go_ret
  exact ⟨rfl, _, rfl⟩

set_option maxRecDepth 100000 in
set_option maxHeartbeats 4000000 in
theorem lam4 (fx fy : Nat) (lx ly : Int) (hx hy : ByteArray) (w : World) (x0 : w.cell? ⟨fx, 0, none⟩ = some (.string hx)) (x5 : w.cell? ⟨fx, 5, none⟩ = some (.int .u64 lx)) (y0 : w.cell? ⟨fy, 0, none⟩ = some (.string hy)) (y5 : w.cell? ⟨fy, 5, none⟩ = some (.int .u64 ly)) (h : decide (lx < ly) = false) (h2 : (lx == ly) = true) (h3 : Op.bytesLess hx.toList hy.toList = false) :
    Calls Try.prog 40 #[.pointer (some ⟨fx, 0, none⟩), .pointer (some ⟨fy, 0, none⟩)] w fun e w' => e = .returned (.bool false) ∧ ∃ k, w' = w.drewN k := by
  go_enter Try.func40, Try.ntmps40
  go_wp2
  go_quiet (fail)
  go_wp2
  go_ret
  exact ⟨rfl, _, rfl⟩

theorem lamport_any (fx fy : Nat) (lx ly : Int) (hx hy : ByteArray) (w : World) (x0 : w.cell? ⟨fx, 0, none⟩ = some (.string hx)) (x5 : w.cell? ⟨fx, 5, none⟩ = some (.int .u64 lx)) (y0 : w.cell? ⟨fy, 0, none⟩ = some (.string hy)) (y5 : w.cell? ⟨fy, 5, none⟩ = some (.int .u64 ly)) :
    Calls Try.prog 40 #[.pointer (some ⟨fx, 0, none⟩), .pointer (some ⟨fy, 0, none⟩)] w fun e w' => e = .returned (.bool (keyB lx ly hx hy)) ∧ ∃ k, w' = w.drewN k := by
  unfold keyB
  cases h1 : decide (lx < ly) with
  | true => simpa using lam1 fx fy lx ly hx hy w x0 x5 y0 y5 h1
  | false =>
    cases h2 : decide (lx = ly) with
    | false =>
      have h2' : (lx == ly) = false := by simpa using h2
      simpa using lam2 fx fy lx ly hx hy w x0 x5 y0 y5 h1 h2'
    | true =>
      have h2' : (lx == ly) = true := by simpa using h2
      cases h3 : ltB hx hy with
      | true => simpa using lam3 fx fy lx ly hx hy w x0 x5 y0 y5 h1 h2' h3
      | false => simpa using lam4 fx fy lx ly hx hy w x0 x5 y0 y5 h1 h2' h3

end Go.Proofs.Qxb6609005a
