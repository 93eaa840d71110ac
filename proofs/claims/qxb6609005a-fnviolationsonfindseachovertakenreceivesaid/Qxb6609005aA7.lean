import Derived.Test.Qxb6609005aA6
import Derived.Maps.AppendAt
import Derived.ArgAppend
namespace Go.Proofs.Qxb6609005a
open Go.RowKit Go.WideMaps Go.Maps Go.Sort
set_option linter.unusedSimpArgs false
set_option linter.unusedVariables false
set_option linter.unusedSectionVars false

/-- append at an operation, by what its run leaves -/
theorem wpList_append_ex {P : Program} (w : World) {ops : Array Oper} {rest : List Oper} {o : Oper} {a : Act} {Q : Exit → Act → World → Prop}
    (hg : o.guard = none) (s x : Operand) (t : TypeId) (hop : o.op = Op.call { callee := Callee.builtin Builtin.append, args := #[s, x], argTypes := #[t, t] })
    (vs vx : Value) (hs : a.eval s = vs) (hx : a.eval x = vx) (R : Value → World → Prop) (hrun : ∀ ty, ∃ r W, (Builtin.append_ #[t, t] ty #[vs, vx]).run P w = .ok r W ∧ R r W)
    (hK : ∀ r W, R r W → wpList P ops Q rest (a.put o.dst r) W) : wpList P ops Q (o :: rest) a w := by
  obtain ⟨r, W, hr, hR⟩ := hrun o.type
  refine wpList_plain hg fun K hK' => ?_
  unfold Oper.wp
  simp [execOp, hop, resolve, invoke, builtin, hs, hx, hr, Result.andThen]
  exact hK' _ _ (hK r W hR)

theorem info53 : (Try.prog.info? 53).map (fun i => (i.zero, i.size, i.bytes)) = some (some (.agg #[.pointer none, .pointer none]), 2, 16) := by kernel_rfl

/-- the pairs found: of the call's own, or as they came in, with no room behind -/
def Fnd (w : World) (base : Nat) (v : Value) (N : Nat) (xs : List Value) : Prop :=
  w.ownsRow base 53 2 v N xs ∨ (∃ bb o : Nat, v = .slice (some ⟨bb, o, none⟩) N N ∧ xs.length = N * 2 ∧ bb < base ∧ ∀ j u, xs[j]? = some u → w.cell? ⟨bb, o + j, none⟩ = some u)

/-- the blocks that an append to v may turn -/
def Turns (base : Nat) (v : Value) (b : Nat) : Prop := v.ownBlock = some b ∧ base ≤ b

theorem Keep.of_grown {S : Nat → Prop} {w W : World} {row : Option Nat} (h : w.grownBy W row) (hS : ∀ k, k < w.heap.size → row = some k → S k) : Keep S w W :=
  ⟨h.size, fun k hk hn => h.block k hk (fun e => hn (hS k hk e.symm)), h.os, h.tape, h.output⟩

theorem two_cells (w : World) (x y : Value) (e : TypeId) : ∀ j u, [x, y][j]? = some u → (w.alloc (.cells #[x, y] e)).cell? ((⟨w.heap.size, 0, none⟩ : Addr).add j) = some u := by
  intro j u h
  rw [Addr.add_lit]
  match j, h with
  | 0, h => simp at h; subst h; simp
  | 1, h => simp at h; subst h; simp
  | j + 2, h => simp at h

theorem Fnd.app {w : World} {base : Nat} {v : Value} {N : Nat} {xs : List Value} (h : Fnd w base v N xs) (hN : N + 1 ≤ 4194304) (hb : base ≤ w.heap.size) (x y : Value) (hx : x.oneCell' = true) (hy : y.oneCell' = true) (ty : TypeId) :
    ∃ v' W, (Builtin.append_ #[48, 48] ty #[v, .slice (some ⟨w.heap.size, 0, none⟩) 1 1]).run Try.prog (w.alloc (.cells #[x, y] 53)) = .ok v' W ∧ W.ownsRow base 53 2 v' (N + 1) (xs ++ [x, y]) ∧ Keep (Turns base v) w W ∧ (v'.ownBlock = v.ownBlock ∨ ∃ b, v'.ownBlock = some b ∧ w.heap.size ≤ b) := by
  obtain ⟨i, hi, hz, hsz, hby⟩ := info_parts info53
  have K0 : Keep (Turns base v) w (w.alloc (.cells #[x, y] 53)) := Keep.of_below (below_alloc w _)
  have h1 : ∀ u ∈ [x, y], u.oneCell' = true := by
    intro u hu
    simp at hu
    rcases hu with rfl | rfl
    · exact hx
    · exact hy
  have hs1 : (w.alloc (.cells #[x, y] 53)).heap.size = w.heap.size + 1 := by simp
  rcases h with ho | ⟨bb, o, rfl, hl, hbb, hc⟩
  · have hkept : (w.alloc (.cells #[x, y] 53)).ownsRow base 53 2 v N xs := by
      refine ⟨ho.1, ?_⟩
      rcases ho.2 with hn | ⟨g, cap, cur, rfl, hb', hgg, rest⟩
      · exact .inl hn
      · exact .inr ⟨g, cap, cur, rfl, hb', by rw [Below.heap_alloc _ _ _ (Array.getElem?_eq_some_iff.1 hgg).1]; exact hgg, rest⟩
    obtain ⟨v', W, hr, hown, hgr, _, hloc⟩ := run_append_own_at (P := Try.prog) (w.alloc (.cells #[x, y] 53)) base 48 ty 53 i _ 2 16 Try.underlying48 hi hz hsz hby (by rfl) (by omega) v N xs hkept ⟨w.heap.size, 0, none⟩ 1 1 [x, y] rfl (two_cells w x y 53) h1 (by unfold maxLen; omega) (by omega) (by rw [hs1]; omega)
    refine ⟨v', W, hr, hown, K0.trans (Keep.of_grown hgr (fun k hk e => ⟨e, (hkept.lt k e).1⟩)), ?_⟩
    rcases hloc with e | e
    · exact .inl e
    · exact .inr ⟨_, e, by omega⟩
  · have hc' : ∀ j u, xs[j]? = some u → (w.alloc (.cells #[x, y] 53)).cell? ((⟨bb, o, none⟩ : Addr).add j) = some u := by
      intro j u hju
      rw [Addr.add_lit, cellA (by omega)]
      exact hc j u hju
    obtain ⟨v', W, hr, hown, hgr⟩ := run_append_arg_grows (P := Try.prog) (w.alloc (.cells #[x, y] 53)) 48 ty 53 i _ 2 16 Try.underlying48 hi hz hsz hby (by rfl) (by omega) ⟨bb, o, none⟩ N N xs hl hc' ⟨w.heap.size, 0, none⟩ 1 1 [x, y] rfl (two_cells w x y 53) (by omega) (by unfold maxLen; omega) (by omega)
    rw [hs1] at hown
    refine ⟨v', W, hr, ⟨hown.1, ?_⟩, K0.trans (Keep.of_grown hgr (fun k hk e => by cases e)), ?_⟩
    · rcases hown.2 with hn | ⟨g, cap, cur, e, hb', rest⟩
      · exact .inl hn
      · exact .inr ⟨g, cap, cur, e, by omega, rest⟩
    · rcases hown.2 with ⟨_, hn⟩ | ⟨g, cap, cur, e, hb', rest⟩
      · omega
      · subst e; exact .inr ⟨g, rfl, by omega⟩

/-- the pairs of r with those at the positions l -/
def prs (r : Value) (E : Nat → Value) (l : List Nat) : List Value := l.flatMap fun i => [r, E i]
theorem prs_snoc (r : Value) (E : Nat → Value) (l : List Nat) (i : Nat) : prs r E (l ++ [i]) = prs r E l ++ [r, E i] := by simp [prs]

/-- what overtaken leaves -/
def Over (w w' : World) (base : Nat) (v v' : Value) (N : Nat) (xs : List Value) (r : Value) (E : Nat → Value) (l : List Nat) : Prop :=
  Fnd w' base v' (N + l.length) (xs ++ prs r E l) ∧ Keep (Turns base v) w w' ∧ (v'.ownBlock = v.ownBlock ∨ ∃ b, v'.ownBlock = some b ∧ w.heap.size ≤ b) ∧ ((l ≠ [] ∨ w.ownsRow base 53 2 v N xs) → w'.ownsRow base 53 2 v' (N + l.length) (xs ++ prs r E l)) ∧ (l = [] → v' = v)

theorem Over.refl {w : World} {base : Nat} {v : Value} {N : Nat} {xs : List Value} (h : Fnd w base v N xs) (r : Value) (E : Nat → Value) : Over w w base v v N xs r E [] :=
  ⟨by simpa [prs] using h, Keep.refl _ _, .inl rfl, fun h2 => h2.elim (fun h3 => absurd rfl h3) (fun h3 => by simpa [prs] using h3), fun _ => rfl⟩

theorem Over.step {w wr : World} {base : Nat} {v u : Value} {N : Nat} {xs : List Value} {r : Option Addr} {E : Nat → Value} {l : List Nat} (O : Over w wr base v u N xs (.pointer r) E l) (hb : base ≤ w.heap.size) {j : Nat} {p : Option Addr} (hj : E j = .pointer p) (hN : N + l.length + 1 ≤ 4194304) (ty : TypeId) :
    ∃ v' W, (Builtin.append_ #[48, 48] ty #[u, .slice (some ⟨wr.heap.size, 0, none⟩) 1 1]).run Try.prog (wr.alloc (.cells #[.pointer r, .pointer p] 53)) = .ok v' W ∧ Over w W base v v' N xs (.pointer r) E (l ++ [j]) := by
  obtain ⟨hF, hK, hl, _⟩ := O
  obtain ⟨v', W, hr, hown, hK', hloc⟩ := hF.app hN (Nat.le_trans hb hK.size) (.pointer r) (.pointer p) rfl rfl ty
  have hown' : W.ownsRow base 53 2 v' (N + (l ++ [j]).length) (xs ++ prs (.pointer r) E (l ++ [j])) := by
    rw [prs_snoc, hj, ← List.append_assoc, List.length_append, ← Nat.add_assoc]
    exact hown
  refine ⟨v', W, hr, ⟨.inl hown', ?_, ?_, fun _ => hown', fun hnil => absurd hnil (by simp)⟩⟩
  · refine ⟨Nat.le_trans hK.size hK'.size, fun k hk hn => ?_, by rw [hK'.os, hK.os], by rw [hK'.tape, hK.tape], by rw [hK'.output, hK.output]⟩
    rw [hK'.block k (Nat.lt_of_lt_of_le hk hK.size) ?_, hK.block k hk hn]
    rintro ⟨h1, h2⟩
    rcases hl with e | ⟨b, e, hb'⟩
    · exact hn ⟨by rw [← e]; exact h1, h2⟩
    · rw [e] at h1; injection h1 with h1; omega
  · rcases hloc with e | ⟨b, e, hb'⟩
    · rw [e]; exact hl
    · exact .inr ⟨b, e, Nat.le_trans hK.size hb'⟩

theorem Over.bk {w wr : World} {base : Nat} {v u : Value} {N : Nat} {xs : List Value} {r : Value} {E E' : Nat → Value} {l : List Nat} (O : Over w wr base v u N xs r E l) {q rb cb nb pb n cap : Nat} {cn nx pv : Nat → Int} {first : Int} (B : BkAt w q rb cb nb pb n cap E' cn nx pv first) (hlt : q < base ∧ rb < base ∧ cb < base ∧ nb < base ∧ pb < base) : BkAt wr q rb cb nb pb n cap E' cn nx pv first :=
  B.keep O.2.1 ⟨fun h => by have := h.2; omega, fun h => by have := h.2; omega, fun h => by have := h.2; omega, fun h => by have := h.2; omega, fun h => by have := h.2; omega⟩

set_option maxRecDepth 100000 in
set_option maxHeartbeats 2000000 in
theorem overtaken_any (q rb cb nb pb n cap : Nat) (E : Nat → Value) (cn nx pv : Nat → Int) (first : Int) (al : Nat → Bool) (base : Nat) (v : Value) (N : Nat) (xs : List Value) (r : Option Addr) (k : Int) (w : World) (B : BkAt w q rb cb nb pb n cap E cn nx pv first) (L : Links n al nx pv first)
    (hs : ∀ i j, i < j → j < n → cn i ≤ cn j) (hn : n < 65536) (hN : N + n ≤ 4194304) (hE : ∀ i, i < n → ∃ p, E i = .pointer p) (F : Fnd w base v N xs) (hbase : base ≤ w.heap.size) (hlt : q < base ∧ rb < base ∧ cb < base ∧ nb < base ∧ pb < base) :
    Calls Try.prog 37 #[.pointer (some ⟨q, 0, none⟩), .pointer r, .int .u64 k, v] w fun e w' => ∃ v', e = .returned v' ∧ Over w w' base v v' N xs (.pointer r) E ((List.range n).filter fun i => al i && decide (cn i ≤ k)) := by
  have hap := B.ap
  have z4 := B.oq.cell 4 (by omega)
  simp only [bkF] at z4
  have HB : Hid (BkAt w q rb cb nb pb n cap E cn nx pv first) := B
  have HL : Hid (Links n al nx pv first) := L
  have HS : Hid (∀ i j, i < j → j < n → cn i ≤ cn j) := hs
  have HE : Hid (∀ i, i < n → ∃ p, E i = .pointer p) := hE
  have HF : Hid (Over w w base v v N xs (.pointer r) E (lst al (-1))) := by rw [show lst al (-1) = [] from rfl]; exact Over.refl F _ _
  clear B L hs hE F
  go_enter Try.func37, Try.ntmps37
  go_wp2
  go_loopg [3, 9] (n + 1) (fun kx s3 s9 wr => ∃ (a v9 : Int), s9 = .int .i64 v9 ∧ -1 ≤ a ∧ a < n ∧ (n : Int) - a ≤ kx ∧ Hid (IsNext n al a v9) ∧ Hid (∀ i : Nat, (i : Int) ≤ a → al i = true → cn i ≤ k) ∧ Hid (Over w wr base v s3 N xs (.pointer r) E (lst al a)))
  case atStart => exact ⟨-1, first, rfl, by omega, by omega, by omega, HL.out.first, (show Hid _ from fun i h => by omega), HF⟩
  case round =>
    clear HF
    obtain ⟨a, v9, rfl, ha1, ha2, hkx, HNx, HLe, HO⟩ := hrel
    have hlen : (lst al a).length ≤ (a + 1).toNat := by unfold lst; have := List.length_filter_le al (List.range (a + 1).toNat); simpa using this
    rcases HNx.out with ⟨e9, _⟩ | ⟨j, e9, hj1, hj2, hj3, _⟩
    · have FIN : Hid (Over w wr base v u3 N xs (.pointer r) E ((List.range n).filter fun i => al i && decide (cn i ≤ k))) := by
        rw [lst_done ha1 ha2 HNx.out HS.out HLe.out (.inl e9)]; exact HO
      subst e9
      clear HO HLe HNx
      go_wp2
      go_ret
      exact ⟨u3, rfl, FIN.out⟩
    · subst e9
      have BW := HO.out.bk HB.out hlt
      have y1 := BW.oq.cell 1 (by omega)
      have y0 := BW.oq.cell 0 (by omega)
      simp only [bkF] at y1 y0
      have yc := BW.oc.cell j hj2
      have hjz : (j : Int) < (n : Int) := by omega
      by_cases hck : cn j ≤ k
      · obtain ⟨p, hp⟩ := HE.out j hj2
        have yr := BW.or.cell j hj2
        rw [hp] at yr
        have happ := HO.out.step hbase hp (by omega)
        obtain ⟨e1, _⟩ := lst_step ha1 HNx.out
        rw [← e1] at happ
        have HNx2 : Hid (IsNext n al j (nx j)) := HL.out.next j hj2 hj3
        have HLe2 : Hid (∀ i : Nat, (i : Int) ≤ j → al i = true → cn i ≤ k) := fun i hi _ => by
          have hs := HS.out
          by_cases e : i = j
          · rw [e]; exact hck
          · have := hs i j (by omega) hj2; omega
        clear BW HO HNx HLe e1
        go_wp2_with (at_builtin; refine wpList_append_ex _ rfl (.tmp 34) (.tmp 44) 48 rfl _ _ rfl rfl _ happ ?_)
        intro v' W O'
        have BW := O'.bk HB.out hlt
        have x2 := BW.oq.cell 2 (by omega)
        simp only [bkF] at x2
        have xn := BW.ox.cell j hj2
        have HO' : Hid _ := O'
        clear O' BW
        go_wp2
        go_roundg ((n : Int) - j).toNat
        case measure => omega
        case rel => exact ⟨j, nx j, rfl, by omega, by omega, by omega, HNx2, HLe2, HO'⟩
      · have FIN : Hid (Over w wr base v u3 N xs (.pointer r) E ((List.range n).filter fun i => al i && decide (cn i ≤ k))) := by
          rw [lst_done ha1 ha2 HNx.out HS.out HLe.out (.inr ⟨j, rfl, by omega⟩)]; exact HO
        clear HO HLe HNx BW
        go_wp2
        go_ret
        exact ⟨u3, rfl, FIN.out⟩

end Go.Proofs.Qxb6609005a
