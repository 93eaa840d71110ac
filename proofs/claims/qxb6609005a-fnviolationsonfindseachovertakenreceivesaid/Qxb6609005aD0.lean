import Derived.Test.Qxb6609005aA1
import Derived.Laws.StructEq
namespace Go.Proofs.Qxb6609005a
open Go.RowKit Go.MapKept
set_option linter.unusedSimpArgs false
set_option linter.unusedVariables false

/-! keys of map[PairIn]bool -/

def pkey (p : Nat × Nat) : Value := .agg #[.int .i64 (p.1 : Nat), .int .i64 (p.2 : Nat)]

theorem pkey_eq (w : World) (x y : Nat × Nat) : (Op.equal 51 (pkey x) (pkey y)).run Try.prog w = .ok (decide (x = y)) w := by
  have u3 := Try.underlying3
  have a3 := Try.isAgg3
  have z3 := Try.sizeOf3
  have hS : Try.prog.underlying 51 = some (.struct (Try.prog.fieldsOf 51)) := by kernel_rfl
  have hp : Try.prog.stoodInHeld 51 = false := by kernel_rfl
  simp only [pkey, Op.equal, Op.maxDepth]
  rw [show (10000 : Nat) = 9999 + 1 from rfl, run_equalIn_agg w 9999 51 _ _ hS hp]
  simp only [Program.fieldsOf, Try.underlying51]
  go_simp
  obtain ⟨x1, x2⟩ := x
  obtain ⟨y1, y2⟩ := y
  by_cases h1 : x1 = y1 <;> by_cases h2 : x2 = y2 <;> simp [h1, h2] <;> omega

theorem eqok_pkey (w : World) : EqOk Try.prog 51 pkey (fun _ => True) w := by
  refine ⟨fun x _ => by rw [pkey_eq]; simp, fun x y _ _ hne => by rw [pkey_eq]; simp [hne], fun x y _ _ e => ?_⟩
  obtain ⟨x1, x2⟩ := x
  obtain ⟨y1, y2⟩ := y
  simp only [pkey, Value.agg.injEq] at e
  have e' : (#[Value.int .i64 (x1 : Nat), Value.int .i64 (x2 : Nat)] : Array Value).toList = #[Value.int .i64 (y1 : Nat), Value.int .i64 (y2 : Nat)].toList := by rw [e]
  simp at e'
  rw [Prod.mk.injEq]
  omega

theorem checks_pkey : Checks Try.prog 51 pkey (fun _ => True) := fun x _ b w => by
  have u3 := Try.underlying3
  have a3 := Try.isAgg3
  have z3 := Try.sizeOf3
  have h3 : ∀ n v, (Instr.checkKey b (n + 1) 3 (.int .i64 v)).run Try.prog w = .ok () w := fun n v => by
    simp [Instr.checkKey, run_underlying Try.underlying3]
  have hh : ∀ n, (Instr.checkKey b (n + 1 + 1) 51 (pkey x)).run Try.prog w = .ok () w := fun n => by
    rw [Instr.checkKey]
    simp only [pkey, Sem.run_bind, run_underlying Try.underlying51, Result.andThen_ok]
    rw [← Array.forIn_toList]
    simp only [List.forIn_cons, List.forIn_nil]
    go_simp
  exact hh 9998

theorem samebits_pkey : ∀ x : Nat × Nat, True → Instr.sameBits 10000 (pkey x) (pkey x) = true := fun x _ => by
  have hi : ∀ n k v, Instr.sameBits n (.int k v) (.int k v) = true := fun n k v => by cases n <;> simp [Instr.sameBits]
  have hh : ∀ n, Instr.sameBits (n + 1) (pkey x) (pkey x) = true := fun n => by
    simp [Instr.sameBits, pkey, hi]
  exact hh 9999
theorem zero4 (w : World) : (zeroValue 4).run Try.prog w = .ok (.bool false) w := by kernel_rfl
theorem notnow_struct (fs : Array Field) : NotNow (.struct fs) := fun a b => by cases a <;> cases b <;> rfl

end Go.Proofs.Qxb6609005a
