import Derived.Test.Qxb6609005aS0
import Derived.MapKept
import Derived.LaidEqlPtr
namespace Go.Proofs.Qxb6609005a
open Go.RowKit Go.MapKept
set_option linter.unusedSimpArgs false
set_option linter.unusedVariables false
set_option linter.unusedSectionVars false

/-! Maps whose keys are pointers or structs: laws of our own. A key is told by an index x of the domain, its value by κ x. -/

section
variable {ι : Type} {P : Program} {κ : ι → Value} {dom : ι → Prop}

/-- keys of the domain are compared as their indices are -/
structure EqOk (P : Program) (kt : TypeId) (κ : ι → Value) (dom : ι → Prop) (w : World) : Prop where
  same : ∀ x, dom x → (Op.equal kt (κ x) (κ x)).run P w = .ok true w
  other : ∀ x y, dom x → dom y → x ≠ y → (Op.equal kt (κ x) (κ y)).run P w = .ok false w
  inj : ∀ x y, dom x → dom y → κ x = κ y → x = y

theorem findAsking_spec {kt : TypeId} {w : World} (H : EqOk P kt κ dom w) {x : ι} (hx : dom x) : ∀ (l : List MapEntry) (i : Nat), (∀ e ∈ l, ∃ y, dom y ∧ e.key = κ y) →
    ((Instr.findAsking kt (κ x) l i).run P w = .ok none w ∧ ∀ e ∈ l, e.key ≠ κ x) ∨ ∃ j e, (Instr.findAsking kt (κ x) l i).run P w = .ok (some (i + j, e.val)) w ∧ l[j]? = some e ∧ e.key = κ x
  | [], i, _ => .inl ⟨by simp [Instr.findAsking], by simp⟩
  | e :: es, i, h => by
    obtain ⟨y, hy, hk⟩ := h e (.head _)
    by_cases exy : x = y
    · subst exy
      refine .inr ⟨0, e, ?_, rfl, hk⟩
      simp [Instr.findAsking, hk, H.same x hx, Result.andThen]
    · have hne : e.key ≠ κ x := fun q => exy (H.inj x y hx hy (by rw [← q, hk]))
      rcases findAsking_spec H hx es (i + 1) (fun e he => h e (.tail _ he)) with ⟨h1, h2⟩ | ⟨j, e', h1, h2, h3⟩
      · refine .inl ⟨by simp [Instr.findAsking, hk, H.other x y hx hy exy, Result.andThen, h1], fun e' he' => ?_⟩
        cases he' with
        | head => exact hne
        | tail _ he' => exact h2 e' he'
      · exact .inr ⟨j + 1, e', by simp [Instr.findAsking, hk, H.other x y hx hy exy, Result.andThen, h1]; omega, by simpa using h2, h3⟩

/-- kinds that are not compared at once -/
def NotNow (d : TypeDesc) : Prop := ∀ a b, Instr.sameNow d a b = none

theorem findKey_spec {kt : TypeId} {d : TypeDesc} {w : World} (hd : P.underlying kt = some d) (hn : NotNow d) (H : EqOk P kt κ dom w) {x : ι} (hx : dom x) (l : List MapEntry) (h : ∀ e ∈ l, ∃ y, dom y ∧ e.key = κ y) :
    ((Instr.findKey kt (κ x) l).run P w = .ok none w ∧ ∀ e ∈ l, e.key ≠ κ x) ∨ ∃ j e, (Instr.findKey kt (κ x) l).run P w = .ok (some (j, e.val)) w ∧ l[j]? = some e ∧ e.key = κ x := by
  cases l with
  | nil => exact .inl ⟨by simp [Instr.findKey, Instr.findNow, run_underlying hd, Result.andThen], by simp⟩
  | cons e es =>
    have hr : (Instr.findKey kt (κ x) (e :: es)).run P w = (Instr.findAsking kt (κ x) (e :: es) 0).run P w := by
      simp [Instr.findKey, Instr.findNow, run_underlying hd, Result.andThen, hn _ _]
    rw [hr]
    rcases findAsking_spec H hx (e :: es) 0 h with h1 | ⟨j, e', h1, h2, h3⟩
    · exact .inl h1
    · exact .inr ⟨j, e', by simpa using h1, h2, h3⟩

/-- block b is a map that holds v at x just where f x = some v -/
def AMap (w : World) (b : Nat) (κ : ι → Value) (dom : ι → Prop) (f : ι → Option Value) : Prop :=
  ∃ es clock, w.heap[b]? = some (.map es clock) ∧ (∀ e ∈ es.toList, ∃ y, dom y ∧ e.key = κ y ∧ f y = some e.val) ∧ (∀ x, dom x → (∀ e ∈ es.toList, e.key ≠ κ x) → f x = none) ∧
    ∀ (i j : Nat) (a b : MapEntry), es[i]? = some a → es[j]? = some b → a.key = b.key → i = j

theorem AMap.lt {w : World} {b : Nat} {f : ι → Option Value} (h : AMap w b κ dom f) : b < w.heap.size := by
  obtain ⟨es, clock, hb, _⟩ := h
  exact (Array.getElem?_eq_some_iff.1 hb).1
theorem AMap.keep {w w' : World} {b : Nat} {f : ι → Option Value} (h : AMap w b κ dom f) (hk : w'.heap[b]? = w.heap[b]?) : AMap w' b κ dom f := by
  obtain ⟨es, clock, hb, h1⟩ := h
  exact ⟨es, clock, by rw [hk]; exact hb, h1⟩
theorem AMap.new (w : World) : AMap (w.alloc (.map #[] 0)) w.heap.size κ dom (fun _ => none) :=
  ⟨#[], 0, by show (w.heap.push _)[w.heap.size]? = _; simp, by simp, fun _ _ _ => rfl, fun i j a b h => by simp at h⟩

/-- the key is checked without a word -/
def Checks (P : Program) (kt : TypeId) (κ : ι → Value) (dom : ι → Prop) : Prop := ∀ x, dom x → ∀ b w, (Instr.checkKey b 10000 kt (κ x)).run P w = .ok () w

theorem AMap.look {w : World} {b : Nat} {f : ι → Option Value} {T kt et : TypeId} {d : TypeDesc} (h : AMap w b κ dom f) (hT : P.underlying T = some (.map kt et)) (hd : P.underlying kt = some d) (hn : NotNow d) (H : EqOk P kt κ dom w) (hc : Checks P kt κ dom)
    {z : Value} (hz : (zeroValue et).run P w = .ok z w) {x : ι} (hx : dom x) :
    (Instr.lookup T (.map (some b)) (κ x) false).run P w = .ok ((f x).getD z) w ∧ (Instr.lookup T (.map (some b)) (κ x) true).run P w = .ok (.tuple #[(f x).getD z, .bool (f x).isSome]) w := by
  obtain ⟨es, clock, hb, h1, h2, h3⟩ := h
  rcases findKey_spec hd hn H hx es.toList (fun e he => by obtain ⟨y, hy, hk, _⟩ := h1 e he; exact ⟨y, hy, hk⟩) with ⟨g1, g2⟩ | ⟨j, e, g1, g2, g3⟩
  · have hf := h2 x hx g2
    constructor <;> simp [Instr.lookup, run_underlying hT, MapKept.run_getObj_map hb, hc x hx, g1, hz, hf, Result.andThen]
  · obtain ⟨y, hy, hk, hv⟩ := h1 e (List.mem_of_getElem? g2)
    have exy : x = y := H.inj x y hx hy (by rw [← g3, hk])
    subst exy
    constructor <;> simp [Instr.lookup, run_underlying hT, MapKept.run_getObj_map hb, hc x hx, g1, hv, Result.andThen]

theorem AMap.store {w : World} {b : Nat} {f : ι → Option Value} {T kt et : TypeId} {d : TypeDesc} [DecidableEq ι] (h : AMap w b κ dom f) (hT : P.underlying T = some (.map kt et)) (hd : P.underlying kt = some d) (hn : NotNow d) (H : EqOk P kt κ dom w) (hc : Checks P kt κ dom)
    (hs : ∀ x, dom x → Instr.sameBits 10000 (κ x) (κ x) = true) {x : ι} (hx : dom x) (v : Value) :
    ∃ w', (Instr.mapUpdate T (.map (some b)) (κ x) v).run P w = .ok () w' ∧ AMap w' b κ dom (fun y => if y = x then some v else f y) ∧ Else b w w' := by
  obtain ⟨es, clock, hb, h1, h2, h3⟩ := h
  have hel : ∀ o, Else b w { w with heap := w.heap.setIfInBounds b o } := fun o => ⟨by simp, fun k hk hne => (MapKept.heap_set hb).2 k hne, rfl, rfl, rfl⟩
  have hlt : b < w.heap.size := (Array.getElem?_eq_some_iff.1 hb).1
  rcases findKey_spec hd hn H hx es.toList (fun e he => by obtain ⟨y, hy, hk, _⟩ := h1 e he; exact ⟨y, hy, hk⟩) with ⟨g1, g2⟩ | ⟨j, e, g1, g2, g3⟩
  · refine ⟨{ w with heap := w.heap.setIfInBounds b (.map (es.push { key := κ x, val := v, born := clock }) (clock + 1)) }, ?_, ⟨_, _, (MapKept.heap_set hb).1, ?_, ?_, ?_⟩, hel _⟩
    · simp [Instr.mapUpdate, run_underlying hT, MapKept.run_getObj_map hb, hc x hx, g1, run_setObj_map _ hb, Result.andThen]
    · intro e he
      simp only [Array.toList_push, List.mem_append, List.mem_singleton] at he
      rcases he with he | rfl
      · obtain ⟨y, hy, hk, hv⟩ := h1 e he
        refine ⟨y, hy, hk, ?_⟩
        have : y ≠ x := fun q => g2 e he (by rw [hk, q])
        simp [this, hv]
      · exact ⟨x, hx, rfl, by simp⟩
    · intro y hy hno
      have hne : y ≠ x := fun q => hno { key := κ x, val := v, born := clock } (by simp) (by rw [q])
      simp only [hne, if_false]
      exact h2 y hy (fun e he => hno e (by simp only [Array.toList_push, List.mem_append]; exact .inl he))
    · intro i j a b' ha hb' hab
      rw [Array.getElem?_push] at ha hb'
      split at ha <;> split at hb'
      · omega
      · injection ha with ha
        subst ha
        exact absurd hab.symm (g2 b' (by rw [Array.mem_toList_iff]; exact Array.mem_of_getElem? hb'))
      · injection hb' with hb'
        subst hb'
        exact absurd hab (g2 a (by rw [Array.mem_toList_iff]; exact Array.mem_of_getElem? ha))
      · exact h3 i j a b' ha hb' hab
  · have hj : es[j]? = some e := by simpa using g2
    have hks : (Instr.keyThatStays (κ x) (κ x)).run P w = .ok (κ x) w := by simp [Instr.keyThatStays, hs x hx]
    refine ⟨{ w with heap := w.heap.setIfInBounds b (.map (es.modify j fun e => { e with key := κ x, val := v }) clock) }, ?_, ⟨_, _, (MapKept.heap_set hb).1, ?_, ?_, ?_⟩, hel _⟩
    · simp [Instr.mapUpdate, run_underlying hT, MapKept.run_getObj_map hb, hc x hx, g1, hj, g3, hks, run_setObj_map _ hb, Result.andThen]
    · intro e' he'
      rw [Array.mem_toList_iff, Array.mem_iff_getElem?] at he'
      obtain ⟨i, hi⟩ := he'
      rw [Array.getElem?_modify] at hi
      split at hi
      · rename_i e0; subst e0
        rw [hj] at hi
        simp only [Option.map_some, Option.some.injEq] at hi
        subst hi
        exact ⟨x, hx, rfl, by simp⟩
      · rename_i hne
        obtain ⟨y, hy, hk, hv⟩ := h1 e' (by rw [Array.mem_toList_iff]; exact Array.mem_of_getElem? hi)
        refine ⟨y, hy, hk, ?_⟩
        have : y ≠ x := fun q => hne (h3 j i e e' hj hi (by rw [g3, hk, q]))
        simp [this, hv]
    · intro y hy hno
      have hmem : ({ e with key := κ x, val := v } : MapEntry) ∈ (es.modify j fun e => { e with key := κ x, val := v }).toList := by
        rw [Array.mem_toList_iff, Array.mem_iff_getElem?]
        exact ⟨j, by rw [Array.getElem?_modify, if_pos rfl, hj]; rfl⟩
      have hne : y ≠ x := fun q => hno _ hmem (by rw [q])
      simp only [hne, if_false]
      refine h2 y hy (fun e' he' => ?_)
      rw [Array.mem_toList_iff, Array.mem_iff_getElem?] at he'
      obtain ⟨i, hi⟩ := he'
      by_cases eij : j = i
      · subst eij
        rw [hj] at hi
        injection hi with hi
        subst hi
        rw [g3]
        exact fun q => hne (H.inj y x hy hx q.symm)
      · exact hno e' (by rw [Array.mem_toList_iff, Array.mem_iff_getElem?]; exact ⟨i, by rw [Array.getElem?_modify, if_neg eij]; exact hi⟩)
    · intro i k a b' ha hb' hab
      rw [Array.getElem?_modify] at ha hb'
      have key : ∀ t q, (if j = t then Option.map (fun e : MapEntry => { e with key := κ x, val := v }) es[t]? else es[t]?) = some q → ∃ q', es[t]? = some q' ∧ q'.key = q.key := by
        intro t q hq
        split at hq
        · rename_i e0; subst e0
          rw [hj] at hq
          simp only [Option.map_some, Option.some.injEq] at hq
          subst hq
          exact ⟨e, hj, g3⟩
        · exact ⟨q, hq, rfl⟩
      obtain ⟨a', ha', ka⟩ := key i a ha
      obtain ⟨b'', hb'', kb⟩ := key k b' hb'
      exact h3 i k a' b'' ha' hb'' (by rw [ka, kb, hab])

end
end Go.Proofs.Qxb6609005a
