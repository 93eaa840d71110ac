import Derived.Test.Qxb6609005aS9
import Derived.Lib.ReflectliteSwap
import Derived.Laws.Externs
import Derived.LoopN
import Derived.WalkKit
import Derived.BigCall
import Derived.BigGuard
namespace Go.Proofs.Qxb6609005a
open Go.RowKit
set_option linter.unusedSimpArgs false
set_option linter.unusedVariables false
set_option linter.unusedSectionVars false
variable {α : Type} [Inhabited α] {Inv : World → Array α → Prop} {lt : α → α → Bool} {g : Nat} {lb : Array Value} {sf : Nat} {sb : Array Value} {row n : Nat}


open Go.Lib

set_option maxHeartbeats 1000000 in
theorem insertion_none (lf : Fn) (la lb : Array Value) (f : Nat) (sb : Array Value) (b : Nat) (h : b ≤ 1) (w : World) :
    Calls Try.prog 62 #[.agg #[.func lf la lb, .func (.func f) #[] sb], .int .i64 0, .int .i64 b] w fun e w' => e = .returned (.tuple #[]) ∧ Below w.heap.size w w' := by
  have hB := below_alloc w (.cells #[.func lf la lb, .func (.func f) #[] sb] 111)
  have hz : ¬ ((1 : Int) < (b : Int)) := by omega
  go_enter Try.func62, Try.ntmps62
  go_wp2
  refine wp_loop_rounds 1 ?_
  rw [rounds_succ]
  go_wp2
  go_end0
  exact ⟨rfl, hB⟩

set_option maxHeartbeats 1000000 in
set_option maxRecDepth 100000 in
theorem pdq_tiny (lf : Fn) (la lb : Array Value) (f : Nat) (sb : Array Value) (n : Nat) (h : n ≤ 1) (lim : Int) (w : World) :
    Calls Try.prog 49 #[.agg #[.func lf la lb, .func (.func f) #[] sb], .int .i64 0, .int .i64 n, .int .i64 lim] w fun e w' => e = .returned (.tuple #[]) ∧ Below w.heap.size w w' := by
  have hi := insertion_none lf la lb f sb n h
  have hB := below_alloc w (.cells #[.func lf la lb, .func (.func f) #[] sb] 111)
  have hz : (n : Int) ≤ 12 := by omega
  go_enter Try.func49, Try.ntmps49
  go_wp2
  refine wp_loop_rounds 1 ?_
  rw [rounds_succ]
  go_wp2_with fail
  go_at_call 62
  refine (hi _).mono ?_
  rintro e w' ⟨rfl, hB2⟩
  go_wp2
  (try simp only [Exit.inBlock, Exit.then]); refine bodyPost_ret (results_none rfl _ _ _) rfl ?_
  exact ⟨rfl, hB.trans (hB2.mono hB.size)⟩

/-- What Swapper's literal is bound to. -/
noncomputable def boundV (e : TypeId) (ie : TypeInfo) (ke : Nat) (p : Option Addr) (n c : Nat) : Array Value :=
  if swapperK n ie ke ≤ 2 then #[] else #[.slice p n c, typeHandle Try.prog e]

/-- The world in which pdqsort_func is called: two new blocks. -/
noncomputable def sliceW (t : TypeId) (p : Option Addr) (n c : Nat) (w : World) : World :=
  (w.alloc (.cells #[.slice p n c] t)).alloc (.cells #[.pointer (some ⟨0, t, none⟩), .pointer (some ⟨w.heap.size, 0, none⟩), .int .u64 151] 102)

theorem sliceW_below (t : TypeId) (p : Option Addr) (n c : Nat) (w : World) : Below w.heap.size w (sliceW t p n c w) :=
  (below_alloc w _).trans ((below_alloc _ _).mono (by simp))

set_option maxHeartbeats 1000000 in
set_option maxRecDepth 100000 in
theorem slice_of_pdq (t e : TypeId) (i ie : TypeInfo) (hi : Try.prog.info? t = some i) (hd : i.desc = .slice e) (hpk : Try.prog.packed t = false) (hie : Try.prog.info? e = some ie) (ke : Nat) (hke : ∀ w, (Extern.Rtype.kind e).run Try.prog w = .ok ke w)
    (p : Option Addr) (n c : Nat) (hn : n < 65536) (f : Nat) (hf : Try.prog.funcs.findIdx? (·.name == "internal/reflectlite" ++ ".Swapper$" ++ toString (swapperK n ie ke)) = some f) (lf : Fn) (la lb : Array Value) (w : World) (R : World → Prop)
    (hp : Calls Try.prog 49 #[.agg #[.func lf la lb, .func (.func f) #[] (boundV e ie ke p n c)], .int .i64 0, .int .i64 n, .int .i64 (Lib.bitLen n)] (sliceW t p n c w) fun e w' => e = .returned (.tuple #[]) ∧ R w') :
    Calls Try.prog 38 #[.iface t (.slice p n c), .func lf la lb] w fun e w' => e = .returned (.tuple #[]) ∧ R w' := by
  have hv := run_valueOf_slice (P := Try.prog) t e i hi hd p n c w
  have hs := fun w => run_swapper_slice (P := Try.prog) t e i ie hi hd hie ke hke p n c f hf w
  have hl := fun a w ha => run_valueLen_slice (P := Try.prog) t e i hi hd hpk a p n c w ha
  have hb := fun w => len_small n w hn
  unfold boundV sliceW at hp
  generalize (if swapperK n ie ke ≤ 2 then (#[] : Array Value) else #[.slice p n c, typeHandle Try.prog e]) = B at hs hp
  have hg : Try.prog.globals.size = 0 := by kernel_rfl
  simp only [typeHandle, hg] at hv hl
  have wr : IntKind.u64.wrap (n : Int) = n := by simp [IntKind.wrap, IntKind.bits, IntKind.signed]; omega
  go_enter Try.func38, Try.ntmps38
  go_wp2
  rw [run_callFunc_extern Try.func45 (by kernel_rfl) (by kernel_rfl) (by kernel_rfl) (e := fun args => Extern.ReflectliteValue.unpack (args.getD 0 (.tuple #[]))) (by kernel_rfl),
    show Sem.run Try.prog ((fun args : Array Value => Extern.ReflectliteValue.unpack (args.getD 0 (.tuple #[]))) #[.iface t (.slice p n c)]) w = _ from hv]
  simp only [Result.andThen]
  rw [Oper.upon_value]
  go_wp2
  rw [run_callFunc_extern Try.func46 (by kernel_rfl) (by kernel_rfl) (by kernel_rfl) (e := Extern.ReflectliteSwapper.swapper "internal/reflectlite" (Extern.ReflectliteValue.valueError "Swapper")) (by kernel_rfl), hs]
  simp only [Result.andThen]
  rw [Oper.upon_value]
  go_wp2
  rw [run_callFunc_extern Try.func47 (by kernel_rfl) (by kernel_rfl) (by kernel_rfl) (e := Extern.ReflectliteValue.method (Extern.ReflectliteValue.valueError "reflectlite.Value.Len" 0) Extern.ReflectliteValue.len) (by kernel_rfl),
    hl _ _ (by simp)]
  simp only [Result.andThen]
  rw [Oper.upon_value]
  go_wp2_with (first
    | (go_at_call 48; refine (hb _).mono ?_; rintro e w' ⟨rfl, rfl⟩)
    | (go_at_call 49; refine hp.mono ?_; rintro e w' ⟨rfl, hR⟩))
  go_end0
  exact ⟨rfl, hR⟩

/-- sort.Slice over any invariant, two elements or more -/
theorem slice_sorted (t e : TypeId) (i ie : TypeInfo) (hi : Try.prog.info? t = some i) (hd : i.desc = .slice e) (hpk : Try.prog.packed t = false) (hie : Try.prog.info? e = some ie) (ke : Nat) (hke : ∀ w, (Extern.Rtype.kind e).run Try.prog w = .ok ke w)
    (p : Option Addr) (c : Nat) (h16 : n < 65536) (hf : Try.prog.funcs.findIdx? (·.name == "internal/reflectlite" ++ ".Swapper$" ++ toString (swapperK n ie ke)) = some sf)
    (hO : Sort.SWO lt) (S : Sorter Inv lt g lb sf (boundV e ie ke p n c) row n) (d : Array α) (w : World) (hI : Inv w d) :
    Calls Try.prog 38 #[.iface t (.slice p n c), .func (.func g) #[] lb] w fun e w' => e = .returned (.tuple #[]) ∧ ∃ d', Done Inv row w w' d' ∧ Sort.PermIn 0 n d d' ∧ Sort.SortedIn lt 0 n d' := by
  have hB := sliceW_below t p n c w
  have hI' := S.grow _ _ _ hI hB
  have hbl : Lib.bitLen n < 4611686018427387904 := by
    rw [bitLen_eq _ (by omega)]
    have := (Sort.bitsLen_le_iff n 62).2 (by omega)
    omega
  refine slice_of_pdq t e i ie hi hd hpk hie ke hke p n c h16 sf hf _ _ _ w _ ?_
  refine (pdq_sorted S hO h16 _ hbl d _ hI').mono ?_
  rintro e w' ⟨he, d', D, h1, h2⟩
  exact ⟨he, d', ⟨D.1, (Else.of_below hB).trans D.2⟩, h1, h2⟩

/-- sort.Slice at none or one -/
theorem slice_tiny (t e : TypeId) (i ie : TypeInfo) (hi : Try.prog.info? t = some i) (hd : i.desc = .slice e) (hpk : Try.prog.packed t = false) (hie : Try.prog.info? e = some ie) (ke : Nat) (hke : ∀ w, (Extern.Rtype.kind e).run Try.prog w = .ok ke w)
    (p : Option Addr) (n c : Nat) (h1 : n ≤ 1) (f : Nat) (hf : Try.prog.funcs.findIdx? (·.name == "internal/reflectlite" ++ ".Swapper$" ++ toString (swapperK n ie ke)) = some f) (lf : Fn) (la lb : Array Value) (w : World) :
    Calls Try.prog 38 #[.iface t (.slice p n c), .func lf la lb] w fun e w' => e = .returned (.tuple #[]) ∧ Below w.heap.size w w' := by
  have hB := sliceW_below t p n c w
  refine slice_of_pdq t e i ie hi hd hpk hie ke hke p n c (by omega) f hf lf la lb w _ ?_
  refine (pdq_tiny lf la lb f _ n h1 _ _).mono ?_
  rintro e w' ⟨he, h⟩
  exact ⟨he, hB.trans (h.mono hB.size)⟩

end Go.Proofs.Qxb6609005a
