import Derived.Test.Qxb6609005aC5
import Derived.Test.Qxb6609005aB2
namespace Go.Proofs.Qxb6609005a
open Go.RowKit Go.WideMaps Go.Maps Go.Sort
set_option linter.unusedSimpArgs false
set_option linter.unusedVariables false
set_option linter.unusedSectionVars false

set_option maxHeartbeats 1000000 in
theorem buildEvent_zero2 (a0 : Option Addr) (n0 c0 : Nat) (m : Option Nat) (host : ByteArray) (lam own nn : Int) (a : Option Addr) (len cap : Nat) (w : World) :
    Calls Try.prog 13 #[.slice a0 n0 c0, .map m, .agg #[.string host, .int .u64 lam, .bool true, .int .u32 own, .int .u32 nn, .slice a len cap]] w fun e w' =>
      ∃ eb, e = .returned (.pointer (some ⟨eb, 0, none⟩)) ∧ EvAt w' eb host lam none zeroClk none 0 ∧ Below w.heap.size w w' ∧ w.heap.size ≤ eb := by
  go_enter Try.func13, Try.ntmps13
  go_wp2
  go_ret
  refine ⟨_, rfl, ⟨by simp, by simp, by simp, by simp [zeroClk], by simp [zeroClk], by simp [zeroClk], by simp, .inl rfl⟩, ((Below.refl _ _).alloc (Nat.le_refl _) _).alloc (by simp) _, by omega⟩

set_option maxRecDepth 100000 in
set_option maxHeartbeats 1000000 in
theorem buildEvent_some2 (a0 : Option Addr) (n0 c0 bm : Nat) (host : ByteArray) (lam own nn : Int) (a : Option Addr) (len cap : Nat) (hs cn : Nat → Int) (w : World) (hl : len ≤ 131072) (hkn : KN w a len hs cn) :
    Calls Try.prog 13 #[.slice a0 n0 c0, .map (some bm), .agg #[.string host, .int .u64 lam, .bool false, .int .u32 own, .int .u32 nn, .slice a len cap]] w fun e w' =>
      ∃ eb hb g, e = .returned (.pointer (some ⟨eb, 0, none⟩)) ∧ EvAt w' eb host lam (some ⟨hb, 0, none⟩) ⟨own, nn, len, hs, cn⟩ (some ⟨g, 0, none⟩) len ∧ HostsAt w' (some ⟨hb, 0, none⟩) bm ∧ Below w.heap.size w w' ∧ w.heap.size ≤ eb ∧ w.heap.size ≤ hb ∧ w.heap.size ≤ g := by
  have hmk := run_mk (P := Try.prog) 69 76 _ 2 8 Try.underlying69 info76 len (by omega) (by omega)
  have HN : Hid (KN w a len hs cn) := hkn
  clear hkn
  go_enter Try.func13, Try.ntmps13
  go_wp2
  go_loopg [9] len (fun kx s wr => ∃ j : Nat, j ≤ len ∧ s = .int .i64 j ∧ len - j ≤ kx ∧ wr.cell? ⟨w.heap.size, 5, none⟩ = some (.slice a len cap) ∧ wr.cell? ⟨w.heap.size, 3, none⟩ = some (.int .u32 own) ∧ wr.cell? ⟨w.heap.size, 4, none⟩ = some (.int .u32 nn) ∧
    Hid (Below w.heap.size w wr) ∧ Hid (Own wr (w.heap.size + 1) 6 (evF host lam)) ∧ Hid (Pairs wr (w.heap.size + 1 + 1) len hs cn j))
  case atStart =>
    refine ⟨0, Nat.zero_le _, rfl, by omega, by rw [cellA (by simp; omega), cellA (by simp), World.cell?_alloc_new]; rfl, by rw [cellA (by simp; omega), cellA (by simp), World.cell?_alloc_new]; rfl, by rw [cellA (by simp; omega), cellA (by simp), World.cell?_alloc_new]; rfl, ((((Below.refl _ _).alloc (Nat.le_refl _) _).alloc (by simp) _).alloc (by simp; omega) _), ?_, ?_⟩
    · have hO : Own ((w.alloc (Obj.cells #[Value.string host, Value.int IntKind.u64 lam, Value.bool false, Value.int IntKind.u32 own, Value.int IntKind.u32 nn, Value.slice a len cap] 27)).alloc (Obj.cells #[Value.string host, Value.pointer none, Value.int IntKind.u32 0, Value.int IntKind.u32 0, Value.slice none 0 0, Value.int IntKind.u64 lam, Value.string { data := #[] }, Value.string { data := #[] }, Value.int IntKind.i64 0, Value.slice none 0 0, Value.int IntKind.u8 0, Value.string { data := #[] }, Value.pointer none] 75)) (w.heap.size + 1) 6 (evF host lam) := by
        refine ⟨by simp, fun i hi => ?_, fun i => ?_⟩
        · rw [World.cell?_alloc_at _ _ _ _ (by simp)]
          match i, hi with
          | 0, _ => rfl
          | 1, _ => rfl
          | 2, _ => rfl
          | 3, _ => rfl
          | 4, _ => rfl
          | 5, _ => rfl
        · rw [World.frozen?_alloc_at _ _ _ _ (by simp)]
      exact hO.alloc _
    · have hP := Own.made ((w.alloc (Obj.cells #[Value.string host, Value.int IntKind.u64 lam, Value.bool false, Value.int IntKind.u32 own, Value.int IntKind.u32 nn, Value.slice a len cap] 27)).alloc (Obj.cells #[Value.string host, Value.pointer none, Value.int IntKind.u32 0, Value.int IntKind.u32 0, Value.slice none 0 0, Value.int IntKind.u64 lam, Value.string { data := #[] }, Value.string { data := #[] }, Value.int IntKind.i64 0, Value.slice none 0 0, Value.int IntKind.u8 0, Value.string { data := #[] }, Value.pointer none] 75)) #[Value.int .u32 0, Value.int .u32 0] (len * 2) 76
      simp only [World.size_alloc] at hP
      exact (⟨_, hP, fun i hi => by omega⟩ : Pairs _ _ len hs cn 0)
  case round =>
    obtain ⟨j, hj, rfl, hgj, f5, f3, f4, hb, hE, hP⟩ := hrel
    by_cases hlt : j < len
    · rcases HN.out with e0 | ⟨b0, o0, ha0, hb0, hc0⟩
      · omega
      obtain ⟨d0, d1⟩ := hc0 j hlt
      rw [← hb.out.cell hb0] at d0 d1
      obtain ⟨f, hO, hf⟩ := hP.out
      have e0 := hO.cell (j * 2) (by omega)
      have e1 := hO.cell (j * 2 + 1) (by omega)
      have t0 := hO.thaw (j * 2)
      have t1 := hO.thaw (j * 2 + 1)
      have hP' : Hid (Pairs ((wr.setCell ⟨w.heap.size + 1 + 1, j * 2, none⟩ (.int .u32 (hs j))).setCell ⟨w.heap.size + 1 + 1, j * 2 + 1, none⟩ (.int .u32 (cn j))) (w.heap.size + 1 + 1) len hs cn (j + 1)) := hP.out.set hlt
      have hB' : Hid (Below (w.heap.size + 1 + 1) wr ((wr.setCell ⟨w.heap.size + 1 + 1, j * 2, none⟩ (.int .u32 (hs j))).setCell ⟨w.heap.size + 1 + 1, j * 2 + 1, none⟩ (.int .u32 (cn j))).drew) := (below_set2 wr _ _ _ _ _).drew
      clear hO hf hc0
      subst ha0
      go_wp2
      go_region
      go_wp2
      go_roundg (len - (j + 1))
      case measure => omega
      case rel =>
        refine ⟨j + 1, by omega, by go_num, Nat.le_refl _, ?_, ?_, ?_, hb.out.trans (hB'.out.mono (by omega)), hE.out.below hB'.out (by omega), hP'.out.drew⟩
        · rw [hB'.out.cell (show w.heap.size < _ by omega)]; exact f5
        · rw [hB'.out.cell (show w.heap.size < _ by omega)]; exact f3
        · rw [hB'.out.cell (show w.heap.size < _ by omega)]; exact f4
    · obtain rfl : j = len := by omega
      have hlt1 := hE.out.lt
      go_wp2_with fail
      refine (newClock_any _ _ _ _ _ _ _ _ _ _).mono ?_
      rintro e w1 ⟨hb1, rfl, hl1, hl2, hc1, hB1⟩
      have O1 : Own w1 (w.heap.size + 1) 6 (evF host lam) := hE.out.below hB1 hE.out.lt
      have y1 := O1.cell 1 (by omega)
      have y2 := O1.cell 2 (by omega)
      have y3 := O1.cell 3 (by omega)
      have y4 := O1.cell 4 (by omega)
      have t1 := O1.thaw 1
      have t2 := O1.thaw 2
      have t3 := O1.thaw 3
      have t4 := O1.thaw 4
      have KP : Hid (KN w1 (some ⟨w.heap.size + 1 + 1, 0, none⟩) j hs cn) := (hP.out.kn).below hB1
      have OO : Hid (Own w1 (w.heap.size + 1) 6 (evF host lam)) := O1
      have BB : Hid (Below w.heap.size w w1) := hb.out.trans (hB1.mono hb.out.size)
      have HC1 : Hid (w1.cell? ⟨hb1, 1, none⟩ = some (.map (some bm))) := hc1
      clear O1 hB1 hc1 hP hb hE
      go_wp2
      go_ret
      have E1 := (((OO.out.set 1 (by omega) (.pointer (some ⟨hb1, 0, none⟩))).set 2 (by omega) (.int .u32 own)).set 3 (by omega) (.int .u32 nn)).set 4 (by omega) (.slice (some ⟨w.heap.size + 1 + 1, 0, none⟩) j j)
      have KB : Below (w.heap.size + 1) w1 ((((w1.setCell ⟨w.heap.size + 1, 1, none⟩ (.pointer (some ⟨hb1, 0, none⟩))).setCell ⟨w.heap.size + 1, 2, none⟩ (.int .u32 own)).setCell ⟨w.heap.size + 1, 3, none⟩ (.int .u32 nn)).setCell ⟨w.heap.size + 1, 4, none⟩ (.slice (some ⟨w.heap.size + 1 + 1, 0, none⟩) j j)) :=
        below_set4 w1 _ _ _ _ _ _ _ _ _
      refine ⟨w.heap.size + 1, hb1, w.heap.size + 1 + 1, rfl, ⟨E1.lt, ?_, ?_, ?_, ?_, ?_, ?_, ?_⟩, .inr ⟨hb1, rfl, ?_, ?_⟩, BB.out.trans (KB.mono (by omega)), by omega, by omega, by omega⟩
      · rw [E1.cell 0 (by omega)]; rfl
      · rw [E1.cell 1 (by omega)]; rfl
      · rw [E1.cell 2 (by omega)]; rfl
      · rw [E1.cell 3 (by omega)]; rfl
      · rw [E1.cell 4 (by omega)]; rfl
      · rw [E1.cell 5 (by omega)]; rfl
      · rcases KP.out with h | ⟨b, o, h1, h2, h3⟩
        · exact .inl h
        · injection h1 with h1; injection h1 with h1 h1'; subst h1; subst h1'
          refine .inr ⟨_, _, rfl, by simpa using h2, fun i hi => ?_⟩
          have := h3 i hi
          refine ⟨?_, ?_⟩
          · rw [World.cell?_setCell_other _ _ _ _ (by intro e; injection e with e1 _; omega), World.cell?_setCell_other _ _ _ _ (by intro e; injection e with e1 _; omega), World.cell?_setCell_other _ _ _ _ (by intro e; injection e with e1 _; omega), World.cell?_setCell_other _ _ _ _ (by intro e; injection e with e1 _; omega)]; exact this.1
          · rw [World.cell?_setCell_other _ _ _ _ (by intro e; injection e with e1 _; omega), World.cell?_setCell_other _ _ _ _ (by intro e; injection e with e1 _; omega), World.cell?_setCell_other _ _ _ _ (by intro e; injection e with e1 _; omega), World.cell?_setCell_other _ _ _ _ (by intro e; injection e with e1 _; omega)]; exact this.2
      · simpa using hl1
      · rw [World.cell?_setCell_other _ _ _ _ (by intro e; injection e with e1 _; omega), World.cell?_setCell_other _ _ _ _ (by intro e; injection e with e1 _; omega), World.cell?_setCell_other _ _ _ _ (by intro e; injection e with e1 _; omega), World.cell?_setCell_other _ _ _ _ (by intro e; injection e with e1 _; omega)]; exact HC1.out


/-- all that a built event lies in is new -/
structure EvFresh (B eb : Nat) (hp ka : Option Addr) : Prop where
  eb : B ≤ eb
  hp : ∀ x, hp = some x → B ≤ x.block
  ka : ∀ x, ka = some x → B ≤ x.block

theorem buildEvent_any2 (a0 : Option Addr) (n0 c0 bm k : Nat) (host : ByteArray) (lam : Int) (z : Bool) (own nn : Int) (a : Option Addr) (len cap : Nat) (hs cn : Nat → Int) (nm : Nat → ByteArray) (w : World) (E : EvIn w k z own nn a len hs cn) (lh : host.size ≤ maxLen) :
    Calls Try.prog 13 #[.slice a0 n0 c0, .map (some bm), .agg #[.string host, .int .u64 lam, .bool z, .int .u32 own, .int .u32 nn, .slice a len cap]] w fun e w' =>
      ∃ eb hp ka kc, e = .returned (.pointer (some ⟨eb, 0, none⟩)) ∧ EvLog w' eb host lam hp (evClk z own nn len hs cn) ka kc bm k nm ∧ Below w.heap.size w w' ∧ EvFresh w.heap.size eb hp ka := by
  cases z with
  | true =>
    refine (buildEvent_zero2 a0 n0 c0 (some bm) host lam own nn a len cap w).mono ?_
    rintro e w' ⟨eb, rfl, hE, hb, hf0⟩
    have hc : evClk true own nn len hs cn = zeroClk := rfl
    refine ⟨eb, none, none, 0, rfl, ?_, hb, ⟨hf0, fun x h => (by cases h), fun x h => (by cases h)⟩⟩
    rw [hc]
    refine ⟨hE, .inl rfl, fun _ => rfl, by simp [zeroClk], fun j hj => by simp [zeroClk] at hj, fun j hj => by simp [zeroClk] at hj, ?_, lh⟩
    have := E.fits
    rwa [hc] at this
  | false =>
    refine (buildEvent_some2 a0 n0 c0 bm host lam own nn a len cap hs cn w E.hl E.kn).mono ?_
    rintro e w' ⟨eb, hb, g, rfl, hE, hH, hbl, f1, f2, f3⟩
    have hc : evClk false own nn len hs cn = ⟨own, nn, len, hs, cn⟩ := rfl
    have hg := E.good
    have hf := E.fits
    refine ⟨eb, some ⟨hb, 0, none⟩, some ⟨g, 0, none⟩, len, rfl, ?_, hbl, f1, fun x h => by injection h with h; subst h; exact f2, fun x h => by injection h with h; subst h; exact f3⟩
    rcases E.ok with h | ⟨h1, h2⟩
    · cases h
    rw [hc] at hf ⊢
    refine ⟨hE, hH, (fun h => by cases h), E.hl, fun j hj => ?_, fun j hj => ?_, hf, lh⟩
    · have := (h2 (j + 1) hj).2.2.2 (by omega); simpa using this
    · have a1 := (E.cn j hj).1; have a2 := (h2 j hj).2.2.1
      show 0 < cn j
      omega

/-- an event whose blocks are not of S stays -/
theorem EvLog.keepS {W W' : World} {eb : Nat} {host : ByteArray} {lam : Int} {hp : Option Addr} {c : Clk} {ka : Option Addr} {kc bm n : Nat} {nm : Nat → ByteArray} (h : EvLog W eb host lam hp c ka kc bm n nm) {B : Nat} (fr : EvFresh B eb hp ka) {S : Nat → Prop} (K : Keep S W W') (hS : ∀ b, S b → b < B) : EvLog W' eb host lam hp c ka kc bm n nm := by
  have ne : ¬ S eb := fun e => by have := hS _ e; have := fr.eb; omega
  have kc' := fun i => K.cell (i := i) h.ev.lt ne
  refine ⟨⟨Nat.lt_of_lt_of_le h.ev.lt K.size, by rw [kc']; exact h.ev.h0, by rw [kc']; exact h.ev.h1, by rw [kc']; exact h.ev.h2, by rw [kc']; exact h.ev.h3, by rw [kc']; exact h.ev.h4, by rw [kc']; exact h.ev.h5, ?_⟩, ?_, h.zero, h.len, h.asc, h.pos, h.fits, h.host⟩
  · rcases h.ev.kn with e | ⟨b, o, e, hb, hc⟩
    · exact .inl e
    · have nb : ¬ S b := fun x => by have := hS _ x; have := fr.ka _ e; simp only at this; omega
      exact .inr ⟨b, o, e, Nat.lt_of_lt_of_le hb K.size, fun i hi => by rw [K.cell hb nb, K.cell hb nb]; exact hc i hi⟩
  · rcases h.hosts with e | ⟨hb, e, hl, hc⟩
    · exact .inl e
    · have nb : ¬ S hb := fun x => by have := hS _ x; have := fr.hp _ e; simp only at this; omega
      exact .inr ⟨hb, e, Nat.lt_of_lt_of_le hl K.size, by rw [K.cell hl nb]; exact hc⟩

theorem NumMap.keepB {w w' : World} {bm n : Nat} {nm : Nat → ByteArray} (h : NumMap w bm nm n) (k : w'.heap[bm]? = w.heap[bm]?) : NumMap w' bm nm n := by
  obtain ⟨D, ⟨es, clock, hb, F, hs, hD⟩, h2⟩ := h
  exact ⟨D, ⟨es, clock, by rw [k]; exact hb, F, hs, hD⟩, h2⟩

theorem AMap.widen {ι : Type} {w : World} {b : Nat} {κ κ' : ι → Value} {dom dom' : ι → Prop} {f f' : ι → Option Value} (h : AMap w b κ dom f) (h1 : ∀ x, dom x → dom' x) (h2 : ∀ x, dom x → κ x = κ' x) (h3 : ∀ x, dom x → f x = f' x) (h4 : ∀ x, dom' x → ¬ dom x → f' x = none) : AMap w b κ' dom' f' := by
  obtain ⟨es, clock, hb, g1, g2, g3⟩ := h
  refine ⟨es, clock, hb, fun e he => ?_, fun x hx hno => ?_, g3⟩
  · obtain ⟨y, hy, hk, hv⟩ := g1 e he
    exact ⟨y, h1 y hy, by rw [hk, h2 y hy], by rw [← h3 y hy, hv]⟩
  · by_cases hd : dom x
    · rw [← h3 x hd]; exact g2 x hd (fun e he => by rw [h2 x hd]; exact hno e he)
    · exact h4 x hx hd

end Go.Proofs.Qxb6609005a
