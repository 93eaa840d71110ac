import Derived.Test.Qxb6609005aA9
import Derived.Maps.RangeWalk
import Derived.Sort.MapsRangeIn
namespace Go.Proofs.Qxb6609005a
open Go.RowKit Go.WideMaps Go.Maps Go.Sort
set_option linter.unusedSimpArgs false
set_option linter.unusedVariables false
set_option linter.unusedSectionVars false

/-- how a pointer of the call's own reads: by its block -/
def ptrR : Value → Option (DataW Unit × List MemPlace)
  | .pointer (some ⟨q, 0, none⟩) => some (.lit (.int .i64 q), [])
  | .pointer none => some (.lit .nil, [])
  | _ => none

theorem ptrR_mk (q : Nat) : ptrR (.pointer (some ⟨q, 0, none⟩)) = some (.lit (.int .i64 q), []) := rfl
theorem ptrR_inv {v : Value} {y : DataW Unit × List MemPlace} (h : ptrR v = some y) : ∃ o : Option Nat, v = .pointer (o.map fun q => ⟨q, 0, none⟩) := by
  unfold ptrR at h
  split at h
  · exact ⟨some _, rfl⟩
  · exact ⟨none, rfl⟩
  · cases h
theorem ptrR_int {v : Value} {q : Nat} {ps : List MemPlace} (h : ptrR v = some (.lit (.int .i64 q), ps)) : v = .pointer (some ⟨q, 0, none⟩) := by
  unfold ptrR at h
  split at h
  · injection h with h; injection h with h _; injection h with h; injection h with _ h
    have e := Int.ofNat.inj h
    subst e; rfl
  · injection h with h; injection h with h _; injection h with h; cases h
  · cases h
theorem ptrR_nil {v : Value} {ps : List MemPlace} (h : ptrR v = some (.lit .nil, ps)) : v = .pointer none := by
  unfold ptrR at h
  split at h
  · injection h with h; injection h with h _; injection h with h; cases h
  · rfl
  · cases h

theorem zero87 (w : World) : (zeroValue 87).run Try.prog w = .ok (.pointer none) w := by kernel_rfl

/-- block mb maps each sender to its backlog's block -/
def PMap (w : World) (mb : Nat) (L : List ByteArray) (Q : Nat → Nat) : Prop :=
  ∃ D : DataW Unit, w.ownsMap Try.prog 9 ptrR mb L.length D ∧ IsMap D ∧ (∀ i (hi : i < L.length), D.atKey (.string L[i].data.toList) (.lit .nil) = .lit (.int .i64 (Q i)) ∧ Maps.has D (.string L[i].data.toList) = true) ∧
    ∀ s, s ∉ L → D.atKey (.string s.data.toList) (.lit .nil) = .lit .nil ∧ Maps.has D (.string s.data.toList) = false

theorem PMap.lt {w : World} {mb : Nat} {L : List ByteArray} {Q : Nat → Nat} (h : PMap w mb L Q) : mb < w.heap.size := by
  obtain ⟨D, h1, _⟩ := h; exact h1.lt
theorem PMap.keep {w w' : World} {mb : Nat} {L : List ByteArray} {Q : Nat → Nat} (h : PMap w mb L Q) (k : w'.heap[mb]? = w.heap[mb]?) : PMap w' mb L Q := by
  obtain ⟨D, ⟨es, clock, hb, F, hs, hD⟩, h2⟩ := h
  exact ⟨D, ⟨es, clock, by rw [k]; exact hb, F, hs, hD⟩, h2⟩
theorem PMap.new (w : World) (Q : Nat → Nat) : PMap (w.alloc (.map #[] 0)) w.heap.size [] Q :=
  ⟨.map [], World.ownsMap_made _ _ _ _, isMap_empty, fun i hi => by simp at hi, fun s _ => ⟨rfl, rfl⟩⟩

theorem PMap.there {w : World} {mb : Nat} {L : List ByteArray} {Q : Nat → Nat} (h : PMap w mb L Q) {i : Nat} (hi : i < L.length) (hs : L[i].size ≤ maxLen) :
    (Instr.lookup 86 (.map (some mb)) (.string L[i]) false).run Try.prog w = .ok (.pointer (some ⟨Q i, 0, none⟩)) w := by
  obtain ⟨D, h1, h2, h3, h4⟩ := h
  obtain ⟨v, ps, hr, hR⟩ := h1.lookup law9 Try.underlying86 (zero87 w) (zd := .lit .nil) (zp := []) rfl (keyOf_string_mk Try.underlying9 hs)
  rw [(h3 i hi).1] at hR
  rw [hr, ptrR_int hR]
theorem PMap.absent {w : World} {mb : Nat} {L : List ByteArray} {Q : Nat → Nat} (h : PMap w mb L Q) {s : ByteArray} (hn : s ∉ L) (hs : s.size ≤ maxLen) :
    (Instr.lookup 86 (.map (some mb)) (.string s) false).run Try.prog w = .ok (.pointer none) w := by
  obtain ⟨D, h1, h2, h3, h4⟩ := h
  obtain ⟨v, ps, hr, hR⟩ := h1.lookup law9 Try.underlying86 (zero87 w) (zd := .lit .nil) (zp := []) rfl (keyOf_string_mk Try.underlying9 hs)
  rw [(h4 s hn).1] at hR
  rw [hr, ptrR_nil hR]

theorem PMap.put {w : World} {mb : Nat} {L : List ByteArray} {Q : Nat → Nat} (h : PMap w mb L Q) (hL : L.length < 65536) {s : ByteArray} (hn : s ∉ L) (hs : s.size ≤ maxLen) (q : Nat) :
    ∃ w', (Instr.mapUpdate 86 (.map (some mb)) (.string s) (.pointer (some ⟨q, 0, none⟩))).run Try.prog w = .ok () w' ∧ PMap w' mb (L ++ [s]) (fun i => if i = L.length then q else Q i) ∧ Else mb w w' := by
  obtain ⟨D, h1, h2, h3, h4⟩ := h
  obtain ⟨w', hr, ho, hg⟩ := h1.update law9 Try.underlying86 (by unfold maxLen; omega) (keyOf_string_mk Try.underlying9 hs) (ptrR_mk q)
  refine ⟨w', hr, ⟨_, by simpa using ho, h2.put _ _, fun i hi => ?_, fun t ht => ?_⟩, ⟨hg.size, fun k hk hne => hg.block k hk (fun e => hne (by injection e)), hg.os, hg.tape, hg.output⟩⟩
  · by_cases e : i = L.length
    · subst e
      simp only [List.getElem_append_right (Nat.le_refl _), Nat.sub_self, List.getElem_cons_zero, if_true]
      exact ⟨atKey_put_same h2 (show WideAt.IsKeyLit (.string _) from trivial) _ _, has_put_same h2 (show WideAt.IsKeyLit (.string _) from trivial) _⟩
    · have hi' : i < L.length := by simp at hi; omega
      rw [List.getElem_append_left hi']
      simp only [e, if_false]
      have hne : Lit.string L[i].data.toList ≠ .string s.data.toList := fun h => hn (by rw [← key_inj h]; exact List.getElem_mem hi')
      rw [atKey_put_other hne, has_put_other hne]
      exact h3 i hi'
  · simp only [List.mem_append, List.mem_singleton, not_or] at ht
    have hne : Lit.string t.data.toList ≠ .string s.data.toList := fun h => ht.2 (key_inj h)
    rw [atKey_put_other hne, has_put_other hne]
    exact h4 t ht.1

theorem ownsRow_keep {w W : World} {base : Nat} {e : TypeId} {size : Nat} {v : Value} {n : Nat} {xs : List Value} (h : w.ownsRow base e size v n xs) (k : ∀ b, v.ownBlock = some b → W.heap[b]? = w.heap[b]?) : W.ownsRow base e size v n xs := by
  refine ⟨h.1, ?_⟩
  rcases h.2 with hn | ⟨g, cap, cur, rfl, hb, hgg, rest⟩
  · exact .inl hn
  · exact .inr ⟨g, cap, cur, rfl, hb, by rw [k g rfl]; exact hgg, rest⟩

/-- the receives of sender s among the first k events -/
def rcv (g : Log) (k : Nat) (s : ByteArray) : List Nat := (List.range k).filter fun i => g.rv i && decide (g.ho i = s)
theorem rcv_no {g : Log} {k : Nat} (h : g.rv k = false) (s : ByteArray) : rcv g (k + 1) s = rcv g k s := by
  unfold rcv; rw [List.range_succ, List.filter_append]; simp [h]
theorem rcv_yes {g : Log} {k : Nat} (h : g.rv k = true) : rcv g (k + 1) (g.ho k) = rcv g k (g.ho k) ++ [k] := by
  unfold rcv; rw [List.range_succ, List.filter_append]; simp [h]
theorem rcv_other {g : Log} {k : Nat} {s : ByteArray} (h : g.ho k ≠ s) : rcv g (k + 1) s = rcv g k s := by
  unfold rcv; rw [List.range_succ, List.filter_append]; simp [h]
theorem rcv_len (g : Log) (k : Nat) (s : ByteArray) : (rcv g k s).length ≤ k := by
  unfold rcv; have := List.length_filter_le (fun i => g.rv i && decide (g.ho i = s)) (List.range k); simpa using this

/-- the backlogs after k events -/
structure Ph1 (g : Log) (w : World) (k : Nat) (L : List ByteArray) (Q rb cp : Nat → Nat) (vS : Value) (W : World) : Prop where
  bel : Below w.heap.size w W
  nod : L.Nodup
  mem : ∀ s, s ∈ L ↔ ∃ i, i < k ∧ g.rv i = true ∧ g.ho i = s
  map : PMap W w.heap.size L Q
  sen : W.ownsRow (w.heap.size + 1) 9 1 vS L.length (L.map .string)
  bq : ∀ s (h : s < L.length), Own W (Q s) 5 (bk0 (rb s) (rcv g k L[s]).length (cp s))
  br : ∀ s (h : s < L.length), W.ownsRow (w.heap.size + 1) 35 1 (.slice (some ⟨rb s, 0, none⟩) (rcv g k L[s]).length (cp s)) (rcv g k L[s]).length ((rcv g k L[s]).map g.pt)
  lo : ∀ s, s < L.length → w.heap.size < Q s
  qq : ∀ s t, s < L.length → t < L.length → Q s = Q t → s = t
  rr : ∀ s t, s < L.length → t < L.length → rb s = rb t → s = t
  qr : ∀ s t, s < L.length → t < L.length → Q s ≠ rb t
  sq : ∀ s b, s < L.length → vS.ownBlock = some b → b ≠ Q s ∧ b ≠ rb s
  len : L.length ≤ k

theorem Ph1.start (g : Log) (w : World) (Q rb cp : Nat → Nat) : Ph1 g w 0 [] Q rb cp (.slice none 0 0) (w.alloc (.map #[] 0)) :=
  ⟨below_alloc w _, List.nodup_nil, fun s => by simp, PMap.new w Q, World.ownsRow_nil _ _ _ _, fun s h => by simp at h, fun s h => by simp at h, fun s h => by simp at h, fun s t h => by simp at h, fun s t h => by simp at h, fun s t h => by simp at h, fun s b h => by simp at h, Nat.le_refl _⟩

/-- an event that is no receive -/
theorem Ph1.skip {g : Log} {w W : World} {k : Nat} {L : List ByteArray} {Q rb cp : Nat → Nat} {vS : Value} (h : Ph1 g w k L Q rb cp vS W) (hr : g.rv k = false) : Ph1 g w (k + 1) L Q rb cp vS W :=
  ⟨h.bel, h.nod, fun s => by
    rw [h.mem s]
    constructor
    · rintro ⟨i, hi, h1, h2⟩; exact ⟨i, by omega, h1, h2⟩
    · rintro ⟨i, hi, h1, h2⟩
      by_cases e : i = k
      · subst e; rw [hr] at h1; cases h1
      · exact ⟨i, by omega, h1, h2⟩, h.map, h.sen, fun s hs => by rw [rcv_no hr]; exact h.bq s hs, fun s hs => by rw [rcv_no hr]; exact h.br s hs, h.lo, h.qq, h.rr, h.qr, h.sq, Nat.le_succ_of_le h.len⟩

theorem one_cell_at (w : World) (x : Value) (e : TypeId) : ∀ j u, [x][j]? = some u → (w.alloc (.cells #[x] e)).cell? ((⟨w.heap.size, 0, none⟩ : Addr).add j) = some u := by
  intro j u h
  rw [Addr.add_lit]
  match j, h with
  | 0, h => simp at h; subst h; simp
  | j + 1, h => simp at h

theorem info35p : (Try.prog.info? 35).map (fun i => (i.zero, i.size, i.bytes)) = some (some (.pointer none), 1, 8) := by kernel_rfl
theorem info9p : (Try.prog.info? 9).map (fun i => (i.zero, i.size, i.bytes)) = some (some (.string ⟨#[]⟩), 1, 16) := by kernel_rfl

/-- append one cell to a row of the call's own -/
theorem app_one {t e : TypeId} {z : Value} {bytes : Nat} (ht : Try.prog.underlying t = some (.slice e)) (hinfo : (Try.prog.info? e).map (fun i => (i.zero, i.size, i.bytes)) = some (some z, 1, bytes)) (hz1 : z.cells.size = 1) (hby : bytes ≤ 16)
    {w : World} {base : Nat} {v : Value} {n : Nat} {xs : List Value} (h : w.ownsRow base e 1 v n xs) (hn : n < 65536) (hb : base ≤ w.heap.size) (x : Value) (hx : x.oneCell' = true) (ty : TypeId) :
    ∃ v' W, (Builtin.append_ #[t, t] ty #[v, .slice (some ⟨w.heap.size, 0, none⟩) 1 1]).run Try.prog (w.alloc (.cells #[x] e)) = .ok v' W ∧ W.ownsRow base e 1 v' (n + 1) (xs ++ [x]) ∧ Keep (fun b => v.ownBlock = some b) w W ∧
      ∃ b cap, v' = .slice (some ⟨b, 0, none⟩) (n + 1) cap ∧ (v.ownBlock = some b ∨ w.heap.size ≤ b) := by
  obtain ⟨i, hi, hz, hsz, hb'⟩ := info_parts hinfo
  have hkept : (w.alloc (.cells #[x] e)).ownsRow base e 1 v n xs := h.alloc _
  have hs1 : (w.alloc (.cells #[x] e)).heap.size = w.heap.size + 1 := by simp
  obtain ⟨v', W, hr, hown, hgr, _, hloc⟩ := run_append_own_at (P := Try.prog) (w.alloc (.cells #[x] e)) base t ty e i _ 1 bytes ht hi hz hsz hb' hz1 (by omega) v n xs hkept ⟨w.heap.size, 0, none⟩ 1 1 [x] rfl (one_cell_at w x e) (fun u hu => by simp at hu; rw [hu]; exact hx) (by unfold maxLen; omega) (by have : (n + 1) * bytes ≤ (n + 1) * 16 := Nat.mul_le_mul_left _ hby; omega) (by rw [hs1]; omega)
  refine ⟨v', W, hr, hown, (Keep.of_below (below_alloc w _)).trans (Keep.of_grown hgr (fun k hk e => e)), ?_⟩
  rcases hown.2 with ⟨_, hn0⟩ | ⟨b, cap, cur, rfl, hbb, rest⟩
  · omega
  · refine ⟨b, cap, rfl, ?_⟩
    rcases hloc with e1 | e1
    · exact .inl (by rw [← e1]; rfl)
    · right; simp [Value.ownBlock] at e1; omega

theorem set_other {W : World} {q i c : Nat} {v : Value} (h : c ≠ q) : (W.setCell ⟨q, i, none⟩ v).heap[c]? = W.heap[c]? := Below.heap_setCell W ⟨q, i, none⟩ v c h
theorem own_of_block {w W : World} {b n : Nat} {f : Nat → Value} (h : Own w b n f) (k : W.heap[b]? = w.heap[b]?) (hl : b < W.heap.size) : Own W b n f :=
  ⟨hl, fun i hi => by rw [← h.cell i hi]; exact World.cell?_of_block (a := ⟨b, i, none⟩) k, fun i => by rw [← h.thaw i]; exact World.frozen?_of_block (a := ⟨b, i, none⟩) k⟩
theorem lt_of_keep {w W : World} {S : Nat → Prop} (k : Keep S w W) {b : Nat} (h : b < w.heap.size) : b < W.heap.size := Nat.lt_of_lt_of_le h k.size

theorem nodup_inj {α : Type} {L : List α} (h : L.Nodup) {i j : Nat} (hi : i < L.length) (hj : j < L.length) (e : L[i] = L[j]) : i = j := by
  have hp := List.pairwise_iff_getElem.1 h
  by_cases h1 : i < j
  · exact absurd e (hp i j hi hj h1)
  · by_cases h2 : j < i
    · exact absurd e.symm (hp j i hj hi h2)
    · omega

/-- a backlog as it is born -/
def bk0' : Nat → Value
  | 4 => .int .i64 0
  | _ => .slice none 0 0

/-- behind the append of a receive: the backlog's first cell may be stored -/
def Stored (g : Log) (w : World) (k : Nat) (L : List ByteArray) (q : Nat) (sl vS : Value) (v' : Value) (W : World) : Prop :=
  (∃ b n c, v' = .slice (some ⟨b, 0, none⟩) n c) ∧ W.cell? ⟨q, 0, none⟩ = some sl ∧ W.frozen? ⟨q, 0, none⟩ = false ∧ ∃ Q rb' cp', Ph1 g w k L Q rb' cp' vS (W.setCell ⟨q, 0, none⟩ v')
/-- behind the append of a new sender -/
def Named (g : Log) (w : World) (k : Nat) (L : List ByteArray) (q e : Nat) (vS' : Value) (W3 : World) : Prop :=
  W3.cell? ⟨q, 0, none⟩ = some (.slice none 0 0) ∧ ∀ ty', ∃ v' W4, (Builtin.append_ #[44, 44] ty' #[.slice none 0 0, .slice (some ⟨W3.heap.size, 0, none⟩) 1 1]).run Try.prog (W3.alloc (.cells #[.pointer (some ⟨e, 0, none⟩)] 35)) = .ok v' W4 ∧ Stored g w k L q (.slice none 0 0) vS' v' W4

/-- a receive of a sender that is known -/
theorem Ph1.old {g : Log} {w W : World} {k : Nat} {L : List ByteArray} {Q rb cp : Nat → Nat} {vS : Value} (h : Ph1 g w k L Q rb cp vS W) (hr : g.rv k = true) (hk : k < 65535) {s : Nat} (hs : s < L.length) (e : L[s] = g.ho k) (ty : TypeId) :
    ∃ v' W', (Builtin.append_ #[44, 44] ty #[.slice (some ⟨rb s, 0, none⟩) (rcv g k L[s]).length (cp s), .slice (some ⟨W.heap.size, 0, none⟩) 1 1]).run Try.prog (W.alloc (.cells #[g.pt k] 35)) = .ok v' W' ∧
      Stored g w (k + 1) L (Q s) (.slice (some ⟨rb s, 0, none⟩) (rcv g k L[s]).length (cp s)) vS v' W' := by
  have hmb := h.map.lt
  have hlen := rcv_len g k L[s]
  obtain ⟨v', W', hrun, hown, K, b, cap, rfl, hloc⟩ := app_one Try.underlying44 info35p rfl (by omega) (h.br s hs) (by omega) (by omega) (g.pt k) rfl ty
  simp only [Value.ownBlock, Option.some.injEq] at K hloc
  have hql : ∀ t (ht : t < L.length), Q t < W.heap.size := fun t ht => (h.bq t ht).lt
  have hrl : ∀ t (ht : t < L.length), w.heap.size + 1 ≤ rb t ∧ rb t < W.heap.size := fun t ht => (h.br t ht).lt _ rfl
  have hqr : Q s ≠ rb s := h.qr s s hs hs
  have hbq : b ≠ Q s := by rcases hloc with e1 | e1; · rw [← e1]; exact fun x => hqr x.symm
                           · have := hql s hs; omega
  have hQ' : Own W' (Q s) 5 (bk0 (rb s) (rcv g k L[s]).length (cp s)) := own_of_block (h.bq s hs) (K.block _ (hql s hs) (fun x => hqr x.symm)) (lt_of_keep K (hql s hs))
  have hfr : ∀ c, c < W.heap.size → c ≠ rb s → c ≠ Q s → (W'.setCell ⟨Q s, 0, none⟩ (.slice (some ⟨b, 0, none⟩) ((rcv g k L[s]).length + 1) cap)).heap[c]? = W.heap[c]? := fun c h1 h2 h3 => by
    rw [set_other h3]; exact K.block c h1 (fun x => h2 x.symm)
  have hsz : (W'.setCell ⟨Q s, 0, none⟩ (.slice (some ⟨b, 0, none⟩) ((rcv g k L[s]).length + 1) cap)).heap.size = W'.heap.size := by simp
  refine ⟨_, W', hrun, ⟨_, _, _, rfl⟩, by rw [hQ'.cell 0 (by omega)]; rfl, hQ'.thaw 0, Q, fun t => if t = s then b else rb t, fun t => if t = s then cap else cp t, ?_⟩
  have hes : g.ho k = L[s] := e.symm
  refine ⟨⟨?_, ?_, ?_, ?_, fun c hc => ?_⟩, h.nod, fun x => ?_, h.map.keep (hfr _ hmb (by have := (hrl s hs).1; omega) (by have := h.lo s hs; omega)), ownsRow_keep h.sen (fun c hc => hfr c (h.sen.lt c hc).2 ((h.sq s c hs hc).2) ((h.sq s c hs hc).1)), fun t ht => ?_, fun t ht => ?_, h.lo, h.qq, fun t u ht hu => ?_, fun t u ht hu => ?_, fun t c ht hc => ?_, Nat.le_succ_of_le h.len⟩
  · show W'.os = w.os; rw [K.os, h.bel.os]
  · show W'.tape = w.tape; rw [K.tape, h.bel.tape]
  · show W'.output = w.output; rw [K.output, h.bel.output]
  · rw [hsz]; exact Nat.le_trans h.bel.size K.size
  · rw [hfr c (by omega) (by have := (hrl s hs).1; omega) (by have := h.lo s hs; omega)]; exact h.bel.block c hc
  · rw [h.mem x]
    constructor
    · rintro ⟨i, hi, h1, h2⟩; exact ⟨i, by omega, h1, h2⟩
    · rintro ⟨i, hi, h1, h2⟩
      by_cases e1 : i = k
      · subst e1; rw [← h2, hes]; exact (h.mem _).1 (List.getElem_mem hs)
      · exact ⟨i, by omega, h1, h2⟩
  · by_cases et : t = s
    · subst et
      simp only [if_true]
      rw [← hes, rcv_yes hr, List.length_append, hes]
      refine (hQ'.set 0 (by omega) _).congr fun i hi => ?_
      match i, hi with
      | 0, _ => rfl
      | 1, _ => rfl
      | 2, _ => rfl
      | 3, _ => rfl
      | 4, _ => rfl
    · simp only [et, if_false]
      have hne : g.ho k ≠ L[t] := fun x => et (by rw [hes] at x; exact (nodup_inj h.nod hs ht x).symm)
      rw [rcv_other hne]
      exact own_of_block (h.bq t ht) (hfr _ (hql t ht) (h.qr t s ht hs) (fun x => et (h.qq t s ht hs x))) (by rw [hsz]; exact lt_of_keep K (hql t ht))
  · by_cases et : t = s
    · subst et
      simp only [if_true]
      rw [← hes, rcv_yes hr, List.length_append, List.map_append, hes]
      exact ownsRow_keep hown (fun c hc => set_other (by simp [Value.ownBlock] at hc; omega))
    · simp only [et, if_false]
      have hne : g.ho k ≠ L[t] := fun x => et (by rw [hes] at x; exact (nodup_inj h.nod hs ht x).symm)
      rw [rcv_other hne]
      exact ownsRow_keep (h.br t ht) (fun c hc => by
        simp [Value.ownBlock] at hc
        subst hc
        exact hfr _ (hrl t ht).2 (fun x => et (h.rr t s ht hs x)) (fun x => h.qr s t hs ht x.symm))
  · have a1 := h.rr t u ht hu
    have a2 := h.rr t s ht hs
    have a3 := h.rr u s hu hs
    have a4 := (hrl t ht).2
    have a5 := (hrl u hu).2
    have a6 := (hrl s hs).2
    by_cases e1 : t = s <;> by_cases e2 : u = s <;> simp only [e1, e2, if_true, if_false]
    · intro x; trivial
    · intro x; exfalso; rcases hloc with e3 | e3
      · exact e2 (a3 (by omega))
      · omega
    · intro x; exfalso; rcases hloc with e3 | e3
      · exact e1 (a2 (by omega))
      · omega
    · exact a1
  · have a2 := h.qr t s ht hs
    have a4 := hql t ht
    by_cases e2 : u = s
    · simp only [e2, if_true]; rcases hloc with e3 | e3 <;> omega
    · simp only [e2, if_false]; exact h.qr t u ht hu
  · refine ⟨(h.sq t c ht hc).1, ?_⟩
    by_cases e2 : t = s
    · have a1 := (h.sq s c hs hc).2
      have a2 := (h.sen.lt c hc).2
      simp only [e2, if_true]; rcases hloc with e3 | e3 <;> omega
    · simp only [e2, if_false]; exact (h.sq t c ht hc).2

theorem rcv_nil {g : Log} {k : Nat} {s : ByteArray} (h : ¬ ∃ i, i < k ∧ g.rv i = true ∧ g.ho i = s) : rcv g k s = [] := by
  unfold rcv
  rw [List.filter_eq_nil_iff]
  intro i hi
  rw [List.mem_range] at hi
  simp only [Bool.and_eq_true, decide_eq_true_eq, not_and]
  exact fun h1 h2 => h ⟨i, hi, h1, h2⟩

/-- a receive of a new sender -/
theorem Ph1.new {g : Log} {w W : World} {k : Nat} {L : List ByteArray} {Q rb cp : Nat → Nat} {vS : Value} (h : Ph1 g w k L Q rb cp vS W) (hr : g.rv k = true) (hk : k < 65535) (hL : L.length < 65535) (hno : g.ho k ∉ L) (hsz : (g.ho k).size ≤ maxLen) :
    ∃ W2, (Instr.mapUpdate 86 (.map (some w.heap.size)) (.string (g.ho k)) (.pointer (some ⟨W.heap.size, 0, none⟩))).run Try.prog (W.alloc (.cells #[.slice none 0 0, .slice none 0 0, .slice none 0 0, .slice none 0 0, .int .i64 0] 89)) = .ok () W2 ∧ Below w.heap.size w W2 ∧
      ∀ ty, ∃ vS' W3, (Builtin.append_ #[22, 22] ty #[vS, .slice (some ⟨W2.heap.size, 0, none⟩) 1 1]).run Try.prog (W2.alloc (.cells #[.string (g.ho k)] 9)) = .ok vS' W3 ∧ Named g w (k + 1) (L ++ [g.ho k]) W.heap.size (g.E k) vS' W3 := by
  have hmb := h.map.lt
  obtain ⟨W1, hW1⟩ : ∃ W1, W1 = W.alloc (.cells #[.slice none 0 0, .slice none 0 0, .slice none 0 0, .slice none 0 0, .int .i64 0] 89) := ⟨_, rfl⟩
  have B1 : Below W.heap.size W W1 := by rw [hW1]; exact below_alloc W _
  have s1 : W1.heap.size = W.heap.size + 1 := by rw [hW1]; simp
  have O1 : Own W1 W.heap.size 5 (bk0' ) := by
    rw [hW1]
    have := Own.new W #[.slice none 0 0, .slice none 0 0, .slice none 0 0, .slice none 0 0, .int .i64 0] 89 bk0' (fun i hi => by
      match i, hi with
      | 0, _ => rfl
      | 1, _ => rfl
      | 2, _ => rfl
      | 3, _ => rfl
      | 4, _ => rfl)
    exact this
  obtain ⟨W2, hput, M2, E2⟩ := (h.map.keep (B1.block _ hmb)).put (by omega) hno hsz W.heap.size
  rw [← hW1]
  have B2 : Below w.heap.size w W2 := ⟨by rw [E2.os, B1.os, h.bel.os], by rw [E2.tape, B1.tape, h.bel.tape], by rw [E2.output, B1.output, h.bel.output], by have := h.bel.size; have := E2.size; omega, fun c hc => by rw [E2.block c (by omega) (by omega), B1.block c (by omega)]; exact h.bel.block c hc⟩
  refine ⟨W2, hput, B2, fun ty => ?_⟩
  have hql : ∀ t (ht : t < L.length), Q t < W.heap.size := fun t ht => (h.bq t ht).lt
  have hrl : ∀ t (ht : t < L.length), w.heap.size + 1 ≤ rb t ∧ rb t < W.heap.size := fun t ht => (h.br t ht).lt _ rfl
  have f2 : ∀ c, c < W.heap.size → c ≠ w.heap.size → W2.heap[c]? = W.heap[c]? := fun c h1 h2 => by rw [E2.block c (by omega) h2]; exact B1.block c h1
  have s2 := E2.size
  have sen2 : W2.ownsRow (w.heap.size + 1) 9 1 vS L.length (L.map .string) := ownsRow_keep h.sen (fun c hc => f2 c (h.sen.lt c hc).2 (by have := (h.sen.lt c hc).1; omega))
  have O2 : Own W2 W.heap.size 5 bk0' := own_of_block O1 (E2.block _ (by omega) (by omega)) (by omega)
  obtain ⟨vS', W3, hrun3, sen3, K3, bS, cS, eS, hS⟩ := app_one Try.underlying22 info9p rfl (by omega) sen2 (by omega) (by omega) (.string (g.ho k)) rfl ty
  have vSne : ∀ c, vS.ownBlock = some c → c < W.heap.size := fun c hc => (h.sen.lt c hc).2
  have O3 : Own W3 W.heap.size 5 bk0' := own_of_block O2 (K3.block _ (by omega) (fun x => by have := vSne _ x; omega)) (by have := K3.size; omega)
  have s3 := K3.size
  refine ⟨vS', W3, hrun3, by rw [O3.cell 0 (by omega)]; rfl, fun ty' => ?_⟩
  obtain ⟨v', W4, hrun4, own4, K4, b, cap, rfl, hloc⟩ := app_one Try.underlying44 info35p rfl (by omega) (World.ownsRow_nil W3 (w.heap.size + 1) 35 1) (by omega) (by omega) (g.pt k) rfl ty'
  have s4 := K4.size
  have hb3 : W3.heap.size ≤ b := by rcases hloc with e1 | e1; · cases e1
                                    · exact e1
  have O4 : Own W4 W.heap.size 5 bk0' := own_of_block O3 (K4.block _ (by omega) (fun x => by cases x)) (by omega)
  refine ⟨_, W4, hrun4, ⟨_, _, _, rfl⟩, by rw [O4.cell 0 (by omega)]; rfl, O4.thaw 0, fun t => if t = L.length then W.heap.size else Q t, fun t => if t = L.length then b else rb t, fun t => if t = L.length then cap else cp t, ?_⟩
  have hnil : rcv g k (g.ho k) = [] := rcv_nil (fun x => hno ((h.mem _).2 x))
  have hone : rcv g (k + 1) (g.ho k) = [k] := by rw [rcv_yes hr, hnil]; rfl
  have fr : ∀ c, c < W.heap.size → c ≠ w.heap.size → vS.ownBlock ≠ some c → (W4.setCell ⟨W.heap.size, 0, none⟩ (.slice (some ⟨b, 0, none⟩) (0 + 1) cap)).heap[c]? = W.heap[c]? := fun c h1 h2 h3 => by
    rw [set_other (by omega), K4.block c (by omega) (fun x => by cases x), K3.block c (by omega) h3]; exact f2 c h1 h2
  have hsz' : (W4.setCell ⟨W.heap.size, 0, none⟩ (.slice (some ⟨b, 0, none⟩) (0 + 1) cap)).heap.size = W4.heap.size := by simp
  have hlL : (L ++ [g.ho k]).length = L.length + 1 := by simp
  have getL : ∀ t (ht : t < (L ++ [g.ho k]).length), (t = L.length ∧ (L ++ [g.ho k])[t] = g.ho k) ∨ ∃ ht' : t < L.length, (L ++ [g.ho k])[t] = L[t] := fun t ht => by
    by_cases e1 : t = L.length
    · subst e1; left; exact ⟨rfl, by simp⟩
    · right; exact ⟨by rw [hlL] at ht; omega, by rw [List.getElem_append_left]⟩
  refine ⟨⟨?_, ?_, ?_, ?_, fun c hc => ?_⟩, ?_, fun x => ?_, M2.keep ?_, ?_, fun t ht => ?_, fun t ht => ?_, fun t ht => ?_, fun t u ht hu => ?_, fun t u ht hu => ?_, fun t u ht hu => ?_, fun t c ht hc => ?_, by rw [hlL]; exact Nat.succ_le_succ h.len⟩
  · show W4.os = w.os; rw [K4.os, K3.os, E2.os, B1.os, h.bel.os]
  · show W4.tape = w.tape; rw [K4.tape, K3.tape, E2.tape, B1.tape, h.bel.tape]
  · show W4.output = w.output; rw [K4.output, K3.output, E2.output, B1.output, h.bel.output]
  · rw [hsz']; have := h.bel.size; omega
  · rw [fr c (by omega) (by omega) (fun x => by have := (h.sen.lt c x).1; omega)]; exact h.bel.block c hc
  · rw [List.nodup_append]; exact ⟨h.nod, by simp, fun a ha b hb => by simp at hb; rw [hb]; exact fun x => hno (by rw [← x]; exact ha)⟩
  · simp only [List.mem_append, List.mem_singleton]
    rw [h.mem x]
    constructor
    · rintro (⟨i, hi, h1, h2⟩ | rfl)
      · exact ⟨i, by omega, h1, h2⟩
      · exact ⟨k, by omega, hr, rfl⟩
    · rintro ⟨i, hi, h1, h2⟩
      by_cases e1 : i = k
      · subst e1; right; exact h2.symm
      · left; exact ⟨i, by omega, h1, h2⟩
  · rw [set_other (by omega), K4.block _ (by omega) (fun x => by cases x), K3.block _ (by omega) (fun x => by have := (h.sen.lt _ x).1; omega)]
  · rw [hlL, List.map_append]
    have hbS : bS ≠ W.heap.size := by
      rcases hS with x | x
      · have := vSne _ x; omega
      · omega
    refine ownsRow_keep sen3 (fun c hc => ?_)
    have hcl := (sen3.lt c hc).2
    rw [eS] at hc
    simp [Value.ownBlock] at hc
    rw [set_other (by omega), K4.block c (by omega) (fun x => by cases x)]
  · rcases getL t ht with ⟨e1, e2⟩ | ⟨ht', e2⟩
    · subst e1
      simp only [if_true, e2, hone]
      refine (O4.set 0 (by omega) _).congr fun i hi => ?_
      match i, hi with
      | 0, _ => rfl
      | 1, _ => rfl
      | 2, _ => rfl
      | 3, _ => rfl
      | 4, _ => rfl
    · have e3 : t ≠ L.length := by omega
      have hne : g.ho k ≠ L[t] := fun x => hno (by rw [x]; exact List.getElem_mem ht')
      simp only [e3, if_false, e2]
      rw [rcv_other hne]
      exact own_of_block (h.bq t ht') (fr _ (hql t ht') (by have := h.lo t ht'; omega) (fun x => (h.sq t _ ht' x).1 rfl)) (by rw [hsz']; have := hql t ht'; omega)
  · rcases getL t ht with ⟨e1, e2⟩ | ⟨ht', e2⟩
    · subst e1
      simp only [if_true, e2, hone]
      exact ownsRow_keep own4 (fun c hc => set_other (by simp [Value.ownBlock] at hc; omega))
    · have e3 : t ≠ L.length := by omega
      have hne : g.ho k ≠ L[t] := fun x => hno (by rw [x]; exact List.getElem_mem ht')
      simp only [e3, if_false, e2]
      rw [rcv_other hne]
      exact ownsRow_keep (h.br t ht') (fun c hc => by
        simp [Value.ownBlock] at hc
        subst hc
        exact fr _ (hrl t ht').2 (by have := (hrl t ht').1; omega) (fun x => (h.sq t _ ht' x).2 rfl))
  · by_cases e1 : t = L.length
    · simp only [e1, if_true]; exact hmb
    · simp only [e1, if_false]; exact h.lo t (by rw [hlL] at ht; omega)
  · rw [hlL] at ht hu
    have a1 := fun h1 h2 => h.qq t u h1 h2
    have a4 := hql t
    have a5 := hql u
    by_cases e1 : t = L.length <;> by_cases e2 : u = L.length <;> simp only [e1, e2, if_true, if_false]
    · intro x; trivial
    · intro x; have := a5 (by omega); omega
    · intro x; have := a4 (by omega); omega
    · exact a1 (by omega) (by omega)
  · rw [hlL] at ht hu
    have a1 := fun h1 h2 => h.rr t u h1 h2
    have a4 := fun h1 => (hrl t h1).2
    have a5 := fun h1 => (hrl u h1).2
    by_cases e1 : t = L.length <;> by_cases e2 : u = L.length <;> simp only [e1, e2, if_true, if_false]
    · intro x; trivial
    · intro x; have := a5 (by omega); omega
    · intro x; have := a4 (by omega); omega
    · exact a1 (by omega) (by omega)
  · rw [hlL] at ht hu
    have a1 := fun h1 h2 => h.qr t u h1 h2
    have a4 := hql t
    have a5 := fun h1 => (hrl u h1).2
    by_cases e1 : t = L.length <;> by_cases e2 : u = L.length <;> simp only [e1, e2, if_true, if_false]
    · omega
    · have := a5 (by omega); omega
    · have := a4 (by omega); omega
    · exact a1 (by omega) (by omega)
  · rw [hlL] at ht
    rw [eS] at hc
    simp [Value.ownBlock] at hc
    subst hc
    have bS3 := (sen3.lt bS (by rw [eS]; rfl)).2
    by_cases e1 : t = L.length
    · simp only [e1, if_true]
      rcases hS with x | x
      · have := vSne _ x; omega
      · omega
    · simp only [e1, if_false]
      have ht' : t < L.length := by omega
      rcases hS with x | x
      · exact h.sq t bS ht' x
      · have := hql t ht'; have := (hrl t ht').2; omega

end Go.Proofs.Qxb6609005a
