import Derived.Test.Qxb6609005aA2
namespace Go.Proofs.Qxb6609005a
open Go.RowKit Go.WideMaps Go.Maps Go.Sort
set_option linter.unusedSimpArgs false
set_option linter.unusedVariables false
set_option linter.unusedSectionVars false

/-- less of link: by the sends' own counts -/
def Log.lt (g : Log) (x y : Nat) : Bool := decide (g.own x < g.own y)
theorem Log.swo (g : Log) : Sort.SWO g.lt :=
  ⟨fun x => by simp [Log.lt], fun x y z h1 h2 => by simp [Log.lt] at *; omega, fun x y z h1 h2 => by simp [Log.lt] at *; omega⟩

set_option maxRecDepth 100000 in
set_option maxHeartbeats 1000000 in
theorem less_link (g : Log) (fb pb q rb n cap : Nat) (D : Array Nat) (w : World) (L : LogAt w g) (hf : w.cell? ⟨fb, 0, none⟩ = some (.func (.func 43) #[] #[])) (hp : w.cell? ⟨pb, 0, none⟩ = some (.pointer (some ⟨q, 0, none⟩)))
    (hq : w.cell? ⟨q, 0, none⟩ = some (.slice (some ⟨rb, 0, none⟩) n cap)) (hr : ∀ i, i < n → w.cell? ⟨rb, i, none⟩ = some (.pointer (some ⟨g.E D[i]!, 0, none⟩)) ∧ D[i]! < g.m ∧ g.rv D[i]! = true) (hn : n < 65536) (i j : Nat) (hi : i < n) (hj : j < n) :
    Calls Try.prog 44 (#[.int .i64 i, .int .i64 j] ++ #[.pointer (some ⟨fb, 0, none⟩), .pointer (some ⟨pb, 0, none⟩)]) w fun e w' => e = .returned (.bool (g.lt D[i]! D[j]!)) ∧ Below w.heap.size w w' := by
  obtain ⟨ci, mi, vi⟩ := hr i hi
  obtain ⟨cj, mj, vj⟩ := hr j hj
  have OI : Hid (∀ dd os, Calls Try.prog 43 #[.pointer (some ⟨g.E D[i]!, 0, none⟩)] (grow (redrawn w dd) os) fun e w'' => e = .returned (.int .u64 (g.own D[i]!)) ∧ ∃ p : Regrown, w'' = grow (redrawn w p.d) p.os) :=
    fun dd os => Calls.regrown_of (own_any g _ _ (L.below (below_regrown w dd os)) mi vi)
  have OJ : Hid (∀ dd os, Calls Try.prog 43 #[.pointer (some ⟨g.E D[j]!, 0, none⟩)] (grow (redrawn w dd) os) fun e w'' => e = .returned (.int .u64 (g.own D[j]!)) ∧ ∃ p : Regrown, w'' = grow (redrawn w p.d) p.os) :=
    fun dd os => Calls.regrown_of (own_any g _ _ (L.below (below_regrown w dd os)) mj vj)
  have x0 := fun dd os => cell_regrown hf dd os
  have x1 := fun dd os => cell_regrown hp dd os
  have x2 := fun dd os => cell_regrown hq dd os
  have x3 := fun dd os => cell_regrown ci dd os
  have x4 := fun dd os => cell_regrown cj dd os
  unfold Log.lt
  clear L hr
  generalize g.own D[i]! = vi at *
  generalize g.own D[j]! = vj at *
  generalize g.E D[i]! = ei at *
  generalize g.E D[j]! = ej at *
  have hiz : (i : Int) < (n : Int) := by omega
  have hjz : (j : Int) < (n : Int) := by omega
  go_enter Try.func44, Try.ntmps44
  go_wp2
  refine wp_region_quiet_below (by kernel_rfl) (by kernel_rfl) ?_
  repeat (quiet_step (first | (go_at_call_of 43 (Value.pointer (some (⟨ei, 0, none⟩ : Addr))); exact OI.out _ _) | (go_at_call_of 43 (Value.pointer (some (⟨ej, 0, none⟩ : Addr))); exact OJ.out _ _)))
  refine wpQuiet_nil ?_
  intro _ hw'
  obtain ⟨⟨dq, osq⟩, hw''⟩ := hw'
  rw [hw'']
  clear hw''
  go_wp2
  go_ret
  exact ⟨rfl, below_regrown w dq osq⟩

/-- what link's sort keeps -/
structure LinkInv (g : Log) (w0 : World) (rb n : Nat) (W : World) (d : Array Nat) : Prop where
  els : Else rb w0 W
  size : d.size = n
  own : Own W rb n (fun i => g.pt d[i]!)
  ok : ∀ i, i < n → d[i]! < g.m ∧ g.rv d[i]! = true
  inb : rb < w0.heap.size


theorem swp_get' (d : Array Nat) {i j k : Nat} (hi : i < d.size) (hj : j < d.size) : (Sort.swp d i j)[k]! = if k = j then d[i]! else if k = i then d[j]! else d[k]! := by
  rw [Sort.swp_get d hi hj]

theorem LinkInv.grow {g : Log} {w0 W W' : World} {rb n : Nat} {d : Array Nat} (h : LinkInv g w0 rb n W d) (k : Below w0.heap.size W W') : LinkInv g w0 rb n W' d :=
  ⟨⟨Nat.le_trans h.els.size k.size, fun b hb hne => by rw [k.block b hb]; exact h.els.block b hb hne, by rw [k.os]; exact h.els.os, by rw [k.tape]; exact h.els.tape, by rw [k.output]; exact h.els.output⟩, h.size,
    ⟨Nat.lt_of_lt_of_le h.own.lt k.size, fun i hi => by rw [k.cell h.inb]; exact h.own.cell i hi, fun i => by rw [k.frozen h.inb]; exact h.own.thaw i⟩, h.ok, h.inb⟩

theorem info35 : Try.prog.info? 35 = some Try.t35 := by kernel_rfl
theorem info44 : Try.prog.info? 44 = some Try.t44 := by kernel_rfl

theorem link_sorter (g : Log) (wb w0 : World) (fb pb q rb n cap : Nat) (LB : LogAt wb g) (hb : Below wb.heap.size wb w0) (hrb : wb.heap.size ≤ rb) (hn2 : 2 ≤ n) (hn : n < 65536)
    (hf : w0.cell? ⟨fb, 0, none⟩ = some (.func (.func 43) #[] #[])) (hp : w0.cell? ⟨pb, 0, none⟩ = some (.pointer (some ⟨q, 0, none⟩))) (hq : w0.cell? ⟨q, 0, none⟩ = some (.slice (some ⟨rb, 0, none⟩) n cap))
    (h1 : fb < w0.heap.size ∧ fb ≠ rb) (h2 : pb < w0.heap.size ∧ pb ≠ rb) (h3 : q < w0.heap.size ∧ q ≠ rb) :
    Sorter (LinkInv g w0 rb n) g.lt 44 #[.pointer (some ⟨fb, 0, none⟩), .pointer (some ⟨pb, 0, none⟩)] 53 #[.slice (some ⟨rb, 0, none⟩) n cap, typeHandle Try.prog 35] rb n where
  small := by omega
  size := fun w d h => h.size
  inb := fun w d h => h.own.lt
  grow := fun w w' d h k => h.grow (k.mono h.els.size)
  far := ⟨w0.heap.size, fun w d h => h.els.size, fun w w' d h k => h.grow k⟩
  enter := enters_of Try.func44 (by kernel_rfl) rfl
  less := fun w d h i j hi hj => by
    refine less_link g fb pb q rb n cap d w (LB.below (h.els.below hb hrb)) ?_ ?_ ?_ (fun i hi => ⟨?_, h.ok i hi⟩) hn i j hi hj
    · rw [h.els.cell h1.1 h1.2]; exact hf
    · rw [h.els.cell h2.1 h2.2]; exact hp
    · rw [h.els.cell h3.1 h3.2]; exact hq
    · exact h.own.cell i hi
  swap := fun w d h i j hi hj => by
    have hr := Lib.run_swap_one (P := Try.prog) true 35 Try.t35 info35 (by kernel_rfl) (fun w => by kernel_rfl) rb 0 n cap i j hi hj (g.pt d[i]!) (g.pt d[j]!) rfl rfl w (by rw [Nat.zero_add]; exact h.own.cell i hi) (by rw [Nat.zero_add]; exact h.own.cell j hj) (h.own.thaw _) (h.own.thaw _)
    rw [Nat.zero_add, Nat.zero_add] at hr
    refine ⟨(w.setCell ⟨rb, i, none⟩ (g.pt d[j]!)).setCell ⟨rb, j, none⟩ (g.pt d[i]!), ?_, ?_⟩
    · rw [run_callFunc_extern Try.func53 (by kernel_rfl) (by kernel_rfl) (by kernel_rfl) (e := Extern.ReflectliteSwapper.swap true) (by kernel_rfl)]
      show ((Extern.ReflectliteSwapper.swap true #[.int .i64 i, .int .i64 j, .slice (some ⟨rb, 0, none⟩) n cap, typeHandle Try.prog 35]).run Try.prog w).andThen _ = _
      rw [hr]
      rfl
    · have E : Else rb w ((w.setCell ⟨rb, i, none⟩ (g.pt d[j]!)).setCell ⟨rb, j, none⟩ (g.pt d[i]!)) := ((Else.refl rb w).setCell _ _).setCell _ _
      have hd := h.size
      refine ⟨⟨h.els.trans E, by rw [Sort.size_swp]; exact hd, ?_, ?_, h.inb⟩, E⟩
      · refine ((h.own.set i hi (g.pt d[j]!)).set j hj (g.pt d[i]!)).congr fun k hk => ?_
        rw [swp_get' d (by omega) (by omega)]
        by_cases e1 : k = j
        · simp [e1]
        · by_cases e2 : k = i
          · subst e2; simp [e1]
          · simp [e1, e2]
      · intro k hk
        rw [swp_get' d (by omega) (by omega)]
        split
        · exact h.ok i hi
        · split
          · exact h.ok j hj
          · exact h.ok k hk

end Go.Proofs.Qxb6609005a
