import Derived.Test.Qxb6609005aA5
namespace Go.Proofs.Qxb6609005a
open Go.RowKit Go.WideMaps Go.Maps Go.Sort
set_option linter.unusedSimpArgs false
set_option linter.unusedVariables false
set_option linter.unusedSectionVars false

theorem BkAt.keep {W W' : World} {q rb cb nb pb n cap : Nat} {E : Nat → Value} {cn nx pv : Nat → Int} {first : Int} {S : Nat → Prop} (h : BkAt W q rb cb nb pb n cap E cn nx pv first) (k : Keep S W W') (hS : ¬ S q ∧ ¬ S rb ∧ ¬ S cb ∧ ¬ S nb ∧ ¬ S pb) : BkAt W' q rb cb nb pb n cap E cn nx pv first :=
  ⟨k.own h.oq hS.1, k.own h.or hS.2.1, k.own h.oc hS.2.2.1, k.own h.ox hS.2.2.2.1, k.own h.op hS.2.2.2.2, h.ap⟩

/-- what take leaves -/
def Taken (w w' : World) (q rb cb nb pb n cap : Nat) (E : Nat → Value) (cn nx pv : Nat → Int) (first : Int) (i : Nat) : Prop :=
  BkAt w' q rb cb nb pb n cap E cn (fun j => if (j : Int) = pv i then nx i else nx j) (fun j => if (j : Int) = nx i then pv i else pv j) (if pv i = -1 then nx i else first) ∧ Keep (fun b => b = q ∨ b = nb ∨ b = pb) w w'

theorem taken_fin {W : World} {q rb cb nb pb n cap : Nat} {E : Nat → Value} {cn nx pv : Nat → Int} {first : Int} {i : Nat} (B : BkAt W q rb cb nb pb n cap E cn nx pv first) (hx : -1 ≤ nx i ∧ nx i < n) (hp : -1 ≤ pv i ∧ pv i < n)
    {W1 W2 : World} (h1 : (pv i = -1 ∧ W1 = W.setCell ⟨q, 4, none⟩ (.int .i64 (nx i))) ∨ (∃ j : Nat, pv i = j ∧ W1 = W.setCell ⟨nb, j, none⟩ (.int .i64 (nx i)))) (h2 : (nx i = -1 ∧ W2 = W1) ∨ (∃ j : Nat, nx i = j ∧ W2 = W1.setCell ⟨pb, j, none⟩ (.int .i64 (pv i)))) :
    Taken W W2 q rb cb nb pb n cap E cn nx pv first i := by
  have hap := B.ap
  have B1 : BkAt W1 q rb cb nb pb n cap E cn (fun j => if (j : Int) = pv i then nx i else nx j) pv (if pv i = -1 then nx i else first) ∧ Keep (fun b => b = q ∨ b = nb ∨ b = pb) W W1 := by
    rcases h1 with ⟨e, rfl⟩ | ⟨j, e, rfl⟩
    · refine ⟨⟨(B.oq.set 4 (by omega) _).congr fun t ht => ?_, B.or.setOther (by show q ≠ rb; omega) _, B.oc.setOther (by show q ≠ cb; omega) _, (B.ox.setOther (by show q ≠ nb; omega) _).congr fun t ht => by rw [if_neg (by omega)], B.op.setOther (by show q ≠ pb; omega) _, B.ap⟩, (Keep.refl _ W).set _ _ (.inl (.inl rfl))⟩
      rw [if_pos e]
      match t, ht with
      | 0, _ => rfl
      | 1, _ => rfl
      | 2, _ => rfl
      | 3, _ => rfl
      | 4, _ => rfl
    · refine ⟨⟨(B.oq.setOther (by show nb ≠ q; omega) _).congr fun t ht => by rw [if_neg (by omega)], B.or.setOther (by show nb ≠ rb; omega) _, B.oc.setOther (by show nb ≠ cb; omega) _, (B.ox.set j (by omega) _).congr fun t ht => ?_, B.op.setOther (by show nb ≠ pb; omega) _, B.ap⟩, (Keep.refl _ W).set _ _ (.inl (.inr (.inl rfl)))⟩
      by_cases et : t = j
      · rw [if_pos et, if_pos (by omega)]
      · rw [if_neg et, if_neg (by omega)]
  obtain ⟨B1, K1⟩ := B1
  rcases h2 with ⟨e, rfl⟩ | ⟨j, e, rfl⟩
  · exact ⟨⟨B1.oq, B1.or, B1.oc, B1.ox, B1.op.congr fun t ht => by rw [if_neg (by omega)], B1.ap⟩, K1⟩
  · refine ⟨⟨B1.oq.setOther (by show pb ≠ q; omega) _, B1.or.setOther (by show pb ≠ rb; omega) _, B1.oc.setOther (by show pb ≠ cb; omega) _, B1.ox.setOther (by show pb ≠ nb; omega) _, (B1.op.set j (by omega) _).congr fun t ht => ?_, B1.ap⟩, K1.set _ _ (.inl (.inr (.inr rfl)))⟩
    by_cases et : t = j
    · rw [if_pos et, if_pos (by omega)]
    · rw [if_neg et, if_neg (by omega)]

theorem BkAt.drewN {W : World} {q rb cb nb pb n cap : Nat} {E : Nat → Value} {cn nx pv : Nat → Int} {first : Int} (h : BkAt W q rb cb nb pb n cap E cn nx pv first) (k : Nat) : BkAt (W.drewN k) q rb cb nb pb n cap E cn nx pv first :=
  ⟨h.oq.drewN k, h.or.drewN k, h.oc.drewN k, h.ox.drewN k, h.op.drewN k, h.ap⟩
theorem Taken.of_drewN {w w' : World} {k : Nat} {q rb cb nb pb n cap : Nat} {E : Nat → Value} {cn nx pv : Nat → Int} {first : Int} {i : Nat} (h : Taken (w.drewN k) w' q rb cb nb pb n cap E cn nx pv first i) : Taken w w' q rb cb nb pb n cap E cn nx pv first i :=
  ⟨h.1, ((Keep.refl _ w).drewN k).trans h.2⟩

set_option maxRecDepth 100000 in
set_option maxHeartbeats 4000000 in
theorem take_any (q rb cb nb pb n cap : Nat) (E : Nat → Value) (cn nx pv : Nat → Int) (first : Int) (i : Nat) (w : World) (B : BkAt w q rb cb nb pb n cap E cn nx pv first) (hi : i < n) (hn : n < 65536) (hx : -1 ≤ nx i ∧ nx i < n) (hp : -1 ≤ pv i ∧ pv i < n) :
    Calls Try.prog 36 #[.pointer (some ⟨q, 0, none⟩), .int .i64 i] w fun e w' => e = .returned (.tuple #[]) ∧ Taken w w' q rb cb nb pb n cap E cn nx pv first i := by
  have hap := B.ap
  have hqn : q ≠ nb := by omega
  have hqp : q ≠ pb := by omega
  have z2 := B.oq.cell 2 (by omega)
  have z3 := B.oq.cell 3 (by omega)
  have z4 := B.oq.cell 4 (by omega)
  simp only [bkF] at z2 z3 z4
  have t4 := B.oq.thaw 4
  have cx := B.ox.cell i hi
  have cp := B.op.cell i hi
  have hiz : (i : Int) < (n : Int) := by omega
  have T : Hid (∀ k W1 W2, ((pv i = -1 ∧ W1 = (w.drewN k).setCell ⟨q, 4, none⟩ (.int .i64 (nx i))) ∨ (∃ j : Nat, pv i = j ∧ W1 = (w.drewN k).setCell ⟨nb, j, none⟩ (.int .i64 (nx i)))) → ((nx i = -1 ∧ W2 = W1) ∨ (∃ j : Nat, nx i = j ∧ W2 = W1.setCell ⟨pb, j, none⟩ (.int .i64 (pv i)))) → Taken w W2 q rb cb nb pb n cap E cn nx pv first i) :=
    fun k W1 W2 h1 h2 => (taken_fin (B.drewN k) hx hp h1 h2).of_drewN
  by_cases h1 : pv i = -1
  · have H1 : Hid (pv i = -1) := h1
    rw [h1] at cp
    by_cases h2 : nx i = -1
    · have H2 : Hid (nx i = -1) := h2
      rw [h2] at cx
      clear h1 h2 B hx hp
      go_enter Try.func36, Try.ntmps36
      go_wp2
      go_quiet (fail)
      go_wp2
      go_end0
      exact ⟨rfl, T.out _ _ _ (.inl ⟨H1.out, rfl⟩) (.inl ⟨H2.out, by rw [H2.out]⟩)⟩
    · obtain ⟨m, hm⟩ : ∃ m : Nat, nx i = m := ⟨(nx i).toNat, by omega⟩
      have H2 : Hid (nx i = m) := hm
      have cm := B.op.cell m (by omega)
      have tm := B.op.thaw m
      have hmz : (m : Int) < (n : Int) := by omega
      rw [hm] at cx
      clear h1 h2 hm B hx hp
      go_enter Try.func36, Try.ntmps36
      go_wp2
      go_quiet (fail)
      go_wp2
      go_end0
      exact ⟨rfl, T.out _ _ _ (.inl ⟨H1.out, rfl⟩) (.inr ⟨m, H2.out, by rw [H1.out, H2.out]⟩)⟩
  · obtain ⟨j, hj⟩ : ∃ j : Nat, pv i = j := ⟨(pv i).toNat, by omega⟩
    have H1 : Hid (pv i = j) := hj
    have cj := B.ox.cell j (by omega)
    have tj := B.ox.thaw j
    have hjz : (j : Int) < (n : Int) := by omega
    rw [hj] at cp
    by_cases h2 : nx i = -1
    · have H2 : Hid (nx i = -1) := h2
      rw [h2] at cx
      clear h1 h2 hj B hx hp
      go_enter Try.func36, Try.ntmps36
      go_wp2
      go_quiet (fail)
      go_wp2
      go_end0
      exact ⟨rfl, T.out _ _ _ (.inr ⟨j, H1.out, rfl⟩) (.inl ⟨H2.out, by rw [H2.out]⟩)⟩
    · obtain ⟨m, hm⟩ : ∃ m : Nat, nx i = m := ⟨(nx i).toNat, by omega⟩
      have H2 : Hid (nx i = m) := hm
      have cm := B.op.cell m (by omega)
      have tm := B.op.thaw m
      have hmz : (m : Int) < (n : Int) := by omega
      have hnp : nb ≠ pb := by omega
      rw [hm] at cx
      clear h1 h2 hm hj B hx hp
      go_enter Try.func36, Try.ntmps36
      go_wp2
      go_quiet (fail)
      go_wp2
      go_end0
      exact ⟨rfl, T.out _ _ _ (.inr ⟨j, H1.out, rfl⟩) (.inr ⟨m, H2.out, by rw [H1.out, H2.out]⟩)⟩

end Go.Proofs.Qxb6609005a
