import Derived.Test.Qxb6609005aB8
namespace Go.Proofs.Qxb6609005a
open Go.RowKit Go.WideMaps Go.Maps Go.Sort
set_option linter.unusedSimpArgs false
set_option linter.unusedVariables false
set_option linter.unusedSectionVars false

/-- what violationsOn leaves -/
def VOn (g : Log) (w : World) (fifo : Bool) (N0 : Nat) (xs0 : List Value) (v' : Value) (w' : World) : Prop :=
  ∃ G base, GOk g fifo g.m G ∧ FF w base w' v' (N0 + allN G g.m) (xs0 ++ allP g G g.m) ∧ w.heap.size ≤ base ∧ Below w.heap.size w w'

theorem below_drew (w : World) : Below w.heap.size w w.drew := ⟨rfl, rfl, rfl, Nat.le_refl _, fun _ _ => rfl⟩

theorem LogAt.host {w : World} {g : Log} (h : LogAt w g) {i : Nat} (hi : i < g.m) (hr : g.rv i = true) : w.cell? ⟨g.F i, 0, none⟩ = some (.string (g.ho i)) ∧ (g.ho i).size ≤ maxLen := by
  obtain ⟨hp, ka, kc, X⟩ := h.sent i hi hr
  exact ⟨X.ev.h0, X.host⟩

theorem mem_idx {L : List ByteArray} {s : ByteArray} (h : s ∈ L) : ∃ (i : Nat) (hi : i < L.length), L[i] = s := by
  obtain ⟨i, hi, e⟩ := List.mem_iff_getElem.1 h
  exact ⟨i, hi, e⟩

theorem FF.shape2 {w W : World} {base : Nat} {v : Value} {N : Nat} {xs : List Value} (h : FF w base W v N xs) : (v = .slice none 0 0 ∧ N = 0) ∨ ∃ bb o c, v = .slice (some ⟨bb, o, none⟩) N c ∧ N ≤ c := by
  rcases h with h | ⟨rfl, rfl, rfl⟩ | ⟨bb, o, h1, h2, h3, h4⟩
  · rcases h.2 with ⟨e, hn⟩ | ⟨g, cap, cur, e, _, _, hc, _⟩
    · exact .inl ⟨e, hn⟩
    · exact .inr ⟨_, _, _, e, hc⟩
  · exact .inl ⟨rfl, rfl⟩
  · exact .inr ⟨_, _, _, h1, Nat.le_refl _⟩

theorem accL_len {g : Log} {L : List ByteArray} {D : Nat → Array Nat} {k : Nat} (hord : ∀ s (hs : s < L.length), Ord g L[s] (D s)) : ∀ t, t ≤ L.length → (accL g L D k t).length ≤ t * g.m
  | 0, _ => by simp [accL]
  | t + 1, h => by
    have ih := accL_len (k := k) hord t (by omega)
    rw [accL_succ, List.length_append, Nat.add_mul, Nat.one_mul]
    have h1 : (late g (D t) k (g.cnt k L[t]!)).length ≤ (D t).size := by
      have := List.length_filter_le (fun j => decide (k < j) && decide (g.own j ≤ g.cnt k L[t]!)) (D t).toList
      simpa [late] using this
    have h2 : (D t).size ≤ g.m := by rw [(hord t (by omega)).size]; exact rcv_len _ _ _
    omega

set_option maxRecDepth 1000000 in
set_option maxHeartbeats 100000000 in
theorem violOn_any (g : Log) (w : World) (a0 : Option Addr) (c0 : Nat) (d : Int) (v0 : Value) (N0 : Nat) (xs0 : List Value) (LB : LogAt w g) (hR : Rd w a0 g.m (fun i => g.pt i)) (hm : g.m ≤ 1024) (hC : Came w v0 N0 xs0) (hN : N0 ≤ 65536) (hd : d = 1 ∨ d = 2) :
    Calls Try.prog 31 #[.slice a0 g.m c0, .int .u8 d, v0] w fun e w' => ∃ v', e = .returned v' ∧ VOn g w (decide (d = 1)) N0 xs0 v' w' := by
  have hmm := @run_makeMap Try.prog
  have HL : Hid (LogAt w g) := LB
  have HR : Hid (Rd w a0 g.m (fun i => g.pt i)) := hR
  have HC : Hid (Came w v0 N0 xs0) := hC
  clear LB hR hC
  go_enter Try.func31, Try.ntmps31
  go_wp2
  go_loopg [8, 28] g.m (fun kx s8 s28 wr => ∃ (k : Nat) (L : List ByteArray) (Q rb cp : Nat → Nat), k ≤ g.m ∧ s28 = .int .i64 k ∧ g.m - k ≤ kx ∧ Hid (Ph1 g w k L Q rb cp s8 wr))
  case atStart => exact ⟨0, [], fun _ => 0, fun _ => 0, fun _ => 0, Nat.zero_le _, rfl, by omega, Ph1.start g w _ _ _⟩
  case round =>
    obtain ⟨k, L, Q, rb, cp, hk, rfl, hkx, P⟩ := hrel
    by_cases hlt : k < g.m
    · rcases HR.out with e0 | ⟨b0, o0, ha0, hb0, hc0⟩
      · omega
      have d0 : wr.cell? ⟨b0, o0 + k, none⟩ = some (.pointer (some ⟨g.E k, 0, none⟩)) := by rw [P.out.bel.cell hb0]; exact hc0 k hlt
      have LW := HL.out.below P.out.bel
      subst ha0
      clear hc0
      have hkz : (k : Int) < (g.m : Int) := by omega
      cases hrv : g.rv k with
      | false =>
        have e12 := LW.cellN hlt hrv
        have P2 : Hid (Ph1 g w (k + 1) L Q rb cp u8 wr) := P.out.skip hrv
        clear P LW hrv
        go_wp2
        go_roundg (g.m - (k + 1))
        case measure => omega
        case rel => exact ⟨k + 1, L, Q, rb, cp, by omega, by go_num, Nat.le_refl _, P2⟩
      | true =>
        have e12 := LW.cellR hlt hrv
        obtain ⟨f0, hsz⟩ := LW.host hlt hrv
        have hLl := P.out.len
        by_cases hin : g.ho k ∈ L
        · obtain ⟨s, hs, es⟩ := mem_idx hin
          have hlook := P.out.map.there hs (by rw [es]; exact hsz)
          rw [es] at hlook
          have q0 := (P.out.bq s hs).cell 0 (by omega)
          simp only [bk0] at q0
          have happ := P.out.old hrv (by omega) hs es
          simp only [Log.pt] at happ
          clear P LW hrv hin
          generalize (rcv g k L[s]).length = rl at *
          go_wp2_with (at_builtin; refine wpList_append_ex _ rfl (.tmp 65) (.tmp 67) 44 rfl _ _ rfl rfl _ happ ?_)
          intro v' W hA
          obtain ⟨⟨b1, n1, c1, rfl⟩, h1, h2, Q', rb', cp', P'⟩ := hA
          have HP' : Hid _ := P'
          clear P'
          go_wp2
          go_roundg (g.m - (k + 1))
          case measure => omega
          case rel => exact ⟨k + 1, L, Q', rb', cp', by omega, by go_num, Nat.le_refl _, HP'⟩
        · have hlook := P.out.map.absent hin hsz
          obtain ⟨W2, hput, hB2, happ⟩ := P.out.new hrv (by omega) (by omega) hin hsz
          have hFk : g.F k < w.heap.size := by
            obtain ⟨hp, ka, kc, X⟩ := HL.out.sent k hlt hrv
            exact X.ev.lt
          have fa : ∀ o, (wr.alloc o).cell? ⟨g.F k, 0, none⟩ = some (.string (g.ho k)) := fun o => by rw [cellA (by have := P.out.bel.size; omega)]; exact f0
          have f2 : W2.cell? ⟨g.F k, 0, none⟩ = some (.string (g.ho k)) := by rw [hB2.cell hFk]; exact (HL.out.host hlt hrv).1
          clear hB2
          clear P LW hrv hin
          go_wp2_with (at_builtin; refine wpList_append_ex _ rfl (.tmp 54) (.tmp 59) 22 rfl _ _ rfl rfl _ happ ?_)
          intro vS' W3 hA
          obtain ⟨h1, happ2⟩ := hA
          go_wp2_with (at_builtin; refine wpList_append_ex _ rfl (.tmp 65) (.tmp 67) 44 rfl _ _ rfl rfl _ happ2 ?_)
          intro v' W hA
          obtain ⟨⟨b1, n1, c1, rfl⟩, h2, h3, Q', rb', cp', P'⟩ := hA
          have HP' : Hid _ := P'
          clear P'
          go_wp2
          go_roundg (g.m - (k + 1))
          case measure => omega
          case rel => exact ⟨k + 1, L ++ [g.ho k], Q', rb', cp', by omega, by go_num, Nat.le_refl _, HP'⟩
    · obtain rfl : k = g.m := by omega
      have hkz : ¬ (g.m : Int) < (g.m : Int) := by omega
      obtain ⟨Dm, hM1, hM2, hM3, hM4⟩ := P.out.map
      have SA : Hid (Says2 L Q Dm) := ⟨hM3, fun s hs => (hM4 s hs).2, hM2, fun s hs => (hM4 s hs).1⟩
      have hown : (wr.alloc (.map #[] 0)).ownsMap Try.prog 9 ptrR w.heap.size L.length Dm := by
        obtain ⟨es, clock, hb, F, hs, hD⟩ := hM1
        exact ⟨es, clock, by rw [Below.heap_alloc _ _ _ P.out.map.lt]; exact hb, F, hs, hD⟩
      have AM : Hid (AMap (wr.alloc (.map #[] 0)) wr.heap.size g.pt (fun i => i < g.m) (fun _ => none)) := AMap.new wr
      have HAS : Hid (∀ s (hs : s < L.length), Maps.has Dm (.string L[s].data.toList) = true) := fun s hs => (hM3 s hs).2
      clear hM1 hM2 hM3 hM4
      go_wp2_with (at_range; refine wpList_range_own _ rfl (.tmp 73) 86 rfl 9 87 law9 Try.underlying86 ptrR w.heap.size L.length Dm rfl hown ?_)
      intro w2 hrg0 hg0 hs0
      have e1 : (wr.alloc (.map #[] 0)).heap.size = wr.heap.size + 1 := by simp
      have hs0' : w2.heap.size = wr.heap.size + 2 := by rw [hs0]
      have hB2 : Below wr.heap.size wr w2 := (below_alloc wr _).trans ⟨hg0.os, hg0.tape, hg0.output, hg0.size, fun c hc => hg0.block c (by rw [e1]; omega) (fun e => by cases e)⟩
      have RR : Hid (R2 g w wr L Q rb cp u8 Dm (fun _ => false) (fun _ => #[]) (fun _ => none) (Maps.has Dm) (Maps.size Dm) w2) := by
        refine ⟨hrg0, fun s hs => by rw [HAS.out s hs]; rfl, fun kl h => h, ⟨fun _ => 0, fun _ => 0, fun _ => 0, fun _ => 0, Ph2.start P.out hB2 (by omega)⟩, AM.out.keep (hg0.block _ (by rw [e1]; omega) (fun e => by cases e)), PlcJ.start L _ _⟩
      clear hrg0 hg0 AM HAS hown hs0 hB2 e1
      go_wp2_with fail
      generalize wr = W1 at *
      generalize u8 = vS at *
      go_loopg [75] (Maps.size Dm) (fun kx s75 wr => ∃ (dn : Nat → Bool) (D : Nat → Array Nat) (f : Nat → Option Value) (left : Lit → Bool) (cnt : Nat), cnt ≤ kx ∧ Hid (R2 g w W1 L Q rb cp vS Dm dn D f left cnt wr))
      case atStart => exact ⟨_, _, _, _, _, Nat.le_refl _, RR⟩
      case round =>
        clear RR hs0'
        obtain ⟨dn, D, f, left, cnt, hcnt, RR⟩ := hrel
        have hrg := RR.out.rg
        go_wp2_with (at_next; refine wpList_next_ranges _ rfl (.tmp 74) rfl 9 law9 ptrR Value.string (fun o : Option Nat => .pointer (o.map fun q => ⟨q, 0, none⟩)) (fun key kl hkey => Maps.keyOf_string_inv Try.underlying9 hkey) (fun v y hv => ptrR_inv hv) w.heap.size (W1.heap.size + 1) L.length Dm left cnt rfl hrg ?_ ?_)
        · intro hc0 hl0
          obtain ⟨cb, nb, pb, X, P3⟩ := ph3_start P.out SA.out RR.out hl0
          have HX : Hid (Fix g w wr W1.heap.size L Q rb vS D cb nb pb f) := X
          have R40 : Hid (R4 g w wr W1.heap.size L Q rb cp vS D cb nb pb f (decide (d = 1)) N0 xs0 0 (fun _ => []) v0 wr) := ⟨P3, ⟨fun i hi => by omega, fun i hi => by omega, fun i hi => by omega⟩, .inr (by simpa [allN, allP] using HC.out)⟩
          clear RR hrg X P3 hc0 hl0
          generalize wr = Wp at *
          go_wp2_with fail
          go_loopg [2, 97] g.m (fun kx s2 s97 wr => ∃ (k : Nat) (G : Nat → List Nat), k ≤ g.m ∧ s97 = .int .i64 k ∧ g.m - k ≤ kx ∧ Hid (R4 g w Wp W1.heap.size L Q rb cp vS D cb nb pb f (decide (d = 1)) N0 xs0 k G s2 wr))
          case atStart => exact ⟨0, _, Nat.zero_le _, rfl, by omega, R40⟩
          case round =>
            clear R40
            obtain ⟨k, G, hk, rfl, hkx, RK⟩ := hrel
            by_cases hlt : k < g.m
            · rcases HR.out with e0 | ⟨b0, o0, ha0, hb0, hc0⟩
              · omega
              have d0 : wr.cell? ⟨b0, o0 + k, none⟩ = some (.pointer (some ⟨g.E k, 0, none⟩)) := by rw [RK.out.ph.bel.cell hb0]; exact hc0 k hlt
              have LW := HL.out.below RK.out.ph.bel
              subst ha0
              clear hc0
              have hkz2 : (k : Int) < (g.m : Int) := by omega
              cases hrv : g.rv k with
              | false =>
                have e12 := LW.cellN hlt hrv
                obtain ⟨G', RK'⟩ := RK.out.skip HX.out hrv
                have HRK' : Hid _ := RK'
                clear RK RK' LW hrv
                go_wp2
                go_roundg (g.m - (k + 1))
                case measure => omega
                case rel => exact ⟨k + 1, G', by omega, by go_num, Nat.le_refl _, HRK'⟩
              | true =>
                have e12 := LW.cellR hlt hrv
                obtain ⟨f0, hsz⟩ := LW.host hlt hrv
                obtain ⟨s, hs, es⟩ := mem_idx ((HX.out.mem _).2 ⟨k, hlt, hrv, rfl⟩)
                have PD := RK.out.ph.grow HX.out (below_drew wr)
                obtain ⟨i, hfi, htake⟩ := PD.take HX.out hm hlt hrv hs es
                have hlk := PD.map.there hs (by rw [es]; exact hsz)
                rw [es] at hlk
                have hpl := (PD.mp.look Try.underlying45 Try.underlying35 notnow_ptr (eqok_log (HL.out.below PD.bel)) (checks_ptr g) (zero3 _) hlt).1
                rw [hfi] at hpl
                simp only [Option.getD, Log.pt] at hpl
                have HFF : Hid (FF w Wp.heap.size wr u2 (N0 + allN G k) (xs0 ++ allP g G k)) := RK.out.ff
                have HOK : Hid (GOk g (decide (d = 1)) k G) := RK.out.ok
                clear RK PD LW
                go_upto_region 30 with fail
                go_cut [] from 107 to 165 (fun wx => Hid (Ph3 g w Wp W1.heap.size L Q rb cp vS D cb nb pb f (k + 1) wx ∧ FF w Wp.heap.size wx u2 (N0 + allN G k) (xs0 ++ allP g G k)))
                case first =>
                  go_region_with (go_at_call 36; refine htake.mono ?_; rintro e w' ⟨rfl, hP, hK⟩)
                  all_goals (go_wp2_with fail; go_meet; exact ⟨hP, (HFF.out.grow (below_drew wr)).keep hK (fun b hb => hb)⟩)
                case rest =>
                  obtain ⟨p2, c2, rfl, hc2⟩ := HFF.out.shape
                  clear htake hlk hpl HFF d0 e12 f0
                  generalize hPP : N0 + allN G k = M at *
                  generalize hXX : xs0 ++ allP g G k = xs at *
                  obtain ⟨hP, hF⟩ := hcut.out
                  have hMle : M ≤ 1200000 := by
                    have h1 := allN_le HOK.out
                    have h2 : k * g.m ≤ 1024 * 1024 := Nat.mul_le_mul (by omega) hm
                    omega
                  have HP : Hid (Ph3 g w Wp W1.heap.size L Q rb cp vS D cb nb pb f (k + 1) wc) := hP
                  have HF : Hid (FF w Wp.heap.size wc (.slice p2 M c2) M xs) := hF
                  obtain ⟨hp, ka, kc, X⟩ := HL.out.sent k hlt hrv
                  have HE : Hid (EvLog w (g.F k) (g.ho k) (g.la k) hp (g.ck k) ka kc g.bm g.n g.nm) := X
                  have HCt : Hid (∀ (W : World) (s : ByteArray), Below w.heap.size w W → s.size ≤ maxLen → Calls Try.prog 34 #[.agg #[.pointer hp, .int .u32 (g.ck k).own, .int .u32 (g.ck k).n, .slice ka (g.ck k).len kc], .string s] W fun e w' => e = .returned (.int .u64 (g.cnt k s)) ∧ Below W.heap.size W w') := fun W s hB hs => Count_any hp (g.ck k) ka kc s g.bm g.n g.nm W (X.hosts.below hB) X.zero (HL.out.map.below hB) X.len (X.ev.kn.below hB) X.asc X.fits hs
                  clear hP hF X hcut
                  go_upto_if 120 with fail
                  go_cut [2, 23] from 121 to 165 (fun s2 s23 wx => ∃ acc, Hid (Ph3 g w Wp W1.heap.size L Q rb cp vS D cb nb pb f (k + 1) wx ∧ FA g w Wp.heap.size k wx s2 M xs acc ∧ acc.Perm ((List.range g.m).filter (g.ov (decide (d = 1)) k))))
                  case first =>
                    rcases hd with rfl | rfl
                    · have hBd : Below w.heap.size w wc.drew := HP.out.bel.trans ((below_drew wc).mono HP.out.bel.size)
                      have hlkd := (HP.out.grow HX.out (below_drew wc)).map.there hs (by rw [es]; exact hsz)
                      rw [es] at hlkd
                      have EV := HE.out.ev.below hBd
                      have x0 := EV.h0
                      have x1 := EV.h1
                      have x2 := EV.h2
                      have x3 := EV.h3
                      have x4 := EV.h4
                      have HBd : Hid (Below w.heap.size w wc.drew) := hBd
                      clear EV hBd
                      go_upto_region 33 with fail
                      go_region_with (first
                        | (go_at_call 34
                           refine (HCt.out _ _ HBd.out hsz).mono ?_
                           rintro e w1 ⟨rfl, hb1⟩
                           have HB1 : Hid (Below wc.heap.size wc w1) := (below_drew wc).trans hb1
                           have y0 : w1.cell? ⟨g.F k, 0, none⟩ = some (.string (g.ho k)) := by
                             rw [hb1.cell (Nat.lt_of_lt_of_le HE.out.ev.lt HBd.out.size)]; exact x0
                           have hlk1 := (HP.out.grow HX.out HB1.out).map.there hs (by rw [es]; exact hsz)
                           rw [es] at hlk1)
                        | (go_at_call 37
                           refine (overF (HP.out.grow HX.out HB1.out) HX.out hm hs _ (FA.start (HF.out.grow HB1.out)) (by simp; omega)).mono ?_
                           rintro e w2 ⟨v', rfl, hP2, hFA⟩))
                      all_goals (go_wp2_with fail; go_meet; exact ⟨_, hP2, hFA, by rw [List.nil_append]; exact fifo_perm (by rw [← es]; exact HX.out.ord s hs)⟩)
                    · obtain ⟨sb, scap, cur, eS, _, _, hscap, _⟩ : ∃ sb scap cur, vS = .slice (some ⟨sb, 0, none⟩) L.length scap ∧ (w.heap.size + 1 ≤ sb) ∧ wc.heap[sb]? = some (.cells cur 9) ∧ L.length ≤ scap ∧ True := by
                        rcases HP.out.sen.2 with ⟨_, h0⟩ | ⟨sb, scap, cur, e, h1, h2, h3, _⟩
                        · omega
                        · exact ⟨sb, scap, cur, e, h1, h2, h3, trivial⟩
                      subst eS
                      have HSZ : Hid (∀ t (ht : t < L.length), L[t].size ≤ maxLen) := fun t ht => by
                        obtain ⟨i, hi, hri, hoi⟩ := (HX.out.mem L[t]).1 (List.getElem_mem ht)
                        rw [← hoi]; exact (HL.out.host hi hri).2
                      have hLl : L.length ≤ 1024 := by have := P.out.len; omega
                      go_wp2_with fail
                      go_loopg [2, 23, 141] L.length (fun kx s2 s23 s141 wx => ∃ t : Nat, t ≤ L.length ∧ s141 = .int .i64 t ∧ L.length - t ≤ kx ∧ Hid (Ph3 g w Wp W1.heap.size L Q rb cp (.slice (some ⟨sb, 0, none⟩) L.length scap) D cb nb pb f (k + 1) wx ∧ FA g w Wp.heap.size k wx s2 M xs (accL g L D k t)))
                      case atStart => exact ⟨0, Nat.zero_le _, rfl, by omega, HP.out, by simpa [accL] using FA.start HF.out⟩
                      case round =>
                        obtain ⟨t, ht, rfl, htk, HPF⟩ := hrel
                        by_cases htl : t < L.length
                        · obtain ⟨hPt, hFt⟩ := HPF.out
                          have hBd : Below w.heap.size w wr.drew := hPt.bel.trans ((below_drew wr).mono hPt.bel.size)
                          have hlkd := (hPt.grow HX.out (below_drew wr)).map.there htl (HSZ.out t htl)
                          have d3 : wr.cell? ⟨sb, t, none⟩ = some (.string L[t]) := by
                            rw [hPt.sen.cellAt t (by simpa using htl)]; simp [htl]
                          have hsz3 := HSZ.out t htl
                          have hacN : M + (accL g L D k t).length ≤ 4000000 := by
                            have h1 := accL_len (g := g) (D := D) (k := k) HX.out.ord t (by omega)
                            have h2 : t * g.m ≤ 1024 * 1024 := Nat.mul_le_mul (by omega) hm
                            omega
                          have HPt : Hid (Ph3 g w Wp W1.heap.size L Q rb cp (.slice (some ⟨sb, 0, none⟩) L.length scap) D cb nb pb f (k + 1) wr) := hPt
                          have HFt : Hid (FA g w Wp.heap.size k wr u2 M xs (accL g L D k t)) := hFt
                          have HST : Hid (L[t]! = L[t]) := getElem!_pos L t htl
                          have HLK : Hid (∀ W, Below wr.heap.size wr W → PMap W w.heap.size L Q) := fun W hB => (hPt.grow HX.out hB).map
                          have EV := HE.out.ev.below hBd
                          have x1 := EV.h1
                          have x2 := EV.h2
                          have x3 := EV.h3
                          have x4 := EV.h4
                          have HBd : Hid (Below w.heap.size w wr.drew) := hBd
                          clear EV hBd hPt hFt HPF
                          have hst : ∀ W, PMap W w.heap.size L Q → _ := fun W h => h.there htl hsz3
                          have HPL : Hid _ := hst
                          clear hst
                          generalize L[t] = st at *
                          have htz : (t : Int) < (L.length : Int) := by omega
                          go_upto_region 37 with fail
                          go_region_with (first
                            | (go_at_call 34
                               refine (HCt.out _ _ HBd.out hsz3).mono ?_
                               rintro e w1 ⟨rfl, hb1⟩
                               have HB1 : Hid (Below wr.heap.size wr w1) := (below_drew wr).trans hb1
                               have hlk1 := HPL.out _ (HLK.out w1 HB1.out))
                            | (go_at_call 37
                               refine (overF (HPt.out.grow HX.out HB1.out) HX.out hm htl _ (HFt.out.grow HB1.out) hacN).mono ?_
                               rintro e w2 ⟨v', rfl, hP2, hFA⟩))
                          all_goals (
                            have HP2 : Hid _ := hP2
                            have HFA : Hid _ := hFA
                            clear hP2 hFA
                            go_wp2
                            go_roundg (L.length - (t + 1))
                            case measure => omega
                            case rel => exact ⟨t + 1, by omega, by go_num, Nat.le_refl _, HP2.out, by rw [accL_succ, HST.out]; exact HFA.out⟩)
                        · obtain rfl : t = L.length := by omega
                          have hkz3 : ¬ (L.length : Int) < (L.length : Int) := by omega
                          go_wp2
                          go_meet
                          exact ⟨_, HPF.out.1, HPF.out.2, causal_perm HX.out.ord HX.out.nod (fun i hi hri => (HX.out.mem _).2 ⟨i, hi, hri, rfl⟩)⟩
                  case rest =>
                    obtain ⟨acc, hcc⟩ := hcut
                    obtain ⟨hP2, hFA, hperm⟩ := hcc.out
                    have hal : acc.length ≤ 1024 := by rw [hperm.length_eq]; exact Nat.le_trans (ov_len _ _ _) hm
                    have hxl : xs.length = M * 2 := HF.out.len
                    have HP2 : Hid (Ph3 g w Wp W1.heap.size L Q rb cp vS D cb nb pb f (k + 1) wc) := hP2
                    have HPM : Hid (acc.Perm ((List.range g.m).filter (g.ov (decide (d = 1)) k))) := hperm
                    by_cases ha : acc.length ≤ 1
                    · have HFA : Hid (FF w Wp.heap.size wc u2 (M + acc.length) (xs ++ prs (g.pt k) g.pt acc)) := hFA.ff
                      have HNX : Hid (∀ w3, Below wc.heap.size wc w3 → ∃ G', R4 g w Wp W1.heap.size L Q rb cp vS D cb nb pb f (decide (d = 1)) N0 xs0 (k + 1) G' u2 w3) := fun w3 B => by
                        refine R4.next HOK.out (HP2.out.grow HX.out B) hrv (List.Perm.refl acc) HPM.out (keySorted_small g ha) ?_
                        rw [hPP, hXX]
                        exact HFA.out.grow B
                      rcases hFA.ff.shape2 with ⟨rfl, h0⟩ | ⟨bb, oo, c3, rfl, hc3⟩
                      · have hM0 : M = 0 := by omega
                        clear hP2 hFA hperm hcc HFA
                        generalize hMM : M = M' at *
                        subst hM0
                        go_wp2_with fail
                        refine (pairs_tiny _ _ _ (by omega) _ _ _ _).mono ?_
                        rintro e w3 ⟨rfl, hb3⟩
                        obtain ⟨G', hR4⟩ := HNX.out w3 ((below_alloc wc _).trans (hb3.mono (by simp)))
                        have HR4 : Hid _ := hR4
                        clear hR4 hb3
                        go_wp2
                        go_roundg (g.m - (k + 1))
                        case measure => omega
                        case rel => exact ⟨k + 1, G', by omega, by go_num, Nat.le_refl _, HR4⟩
                      · clear hP2 hFA hperm hcc HFA
                        go_wp2_with fail
                        all_goals (
                          refine (pairs_tiny _ _ _ ha _ _ _ _).mono ?_
                          rintro e w3 ⟨rfl, hb3⟩
                          obtain ⟨G', hR4⟩ := HNX.out w3 ((below_alloc wc _).trans (hb3.mono (by simp)))
                          have HR4 : Hid _ := hR4
                          clear hR4 hb3
                          go_wp2
                          go_roundg (g.m - (k + 1))
                          case measure => omega
                          case rel => exact ⟨k + 1, G', by omega, by go_num, Nat.le_refl _, by first | exact HR4 | (have hcm : c3 = M := (by omega); rw [hcm] at HR4; exact HR4)⟩)
                    · obtain ⟨fb, cap, rfl, hcap, hcall⟩ := sort_big hP2 HX.out HL.out (hFA.own (fun e => by rw [e] at ha; simp at ha)) hxl (by omega) hal (fun x hx => by
                        have hx' := hperm.mem_iff.1 hx
                        rw [List.mem_filter, List.mem_range] at hx'
                        refine ⟨hx'.1, ?_⟩
                        have h2 := hx'.2
                        simp only [Log.ov, Bool.and_eq_true] at h2
                        exact h2.1.2)
                      have hcM : ¬ cap = M := by omega
                      have HNX : Hid (∀ w3, Sorted3 g Wp.heap.size (.slice (some ⟨fb, 0, none⟩) (M + acc.length) cap) M k xs acc w3 (Ph3 g w Wp W1.heap.size L Q rb cp vS D cb nb pb f (k + 1)) → ∃ G', R4 g w Wp W1.heap.size L Q rb cp vS D cb nb pb f (decide (d = 1)) N0 xs0 (k + 1) G' (.slice (some ⟨fb, 0, none⟩) (M + acc.length) cap) w3) := fun w3 hS => by
                        obtain ⟨l, h1, h2, h3, h4⟩ := hS
                        refine R4.next HOK.out h4 hrv h1 HPM.out h2 ?_
                        rw [hPP, hXX]
                        exact .inl h3
                      clear hP2 hFA hperm hcc HF
                      go_wp2_with fail
                      refine hcall.mono ?_
                      rintro e w3 ⟨rfl, hS3⟩
                      obtain ⟨G', hR4⟩ := HNX.out w3 hS3
                      have HR4 : Hid _ := hR4
                      clear hR4 hS3 hcall
                      go_wp2
                      go_roundg (g.m - (k + 1))
                      case measure => omega
                      case rel => exact ⟨k + 1, G', by omega, by go_num, Nat.le_refl _, HR4⟩
            · obtain rfl : k = g.m := by omega
              have hkz3 : ¬ (g.m : Int) < (g.m : Int) := by omega
              go_wp2
              go_ret
              exact ⟨_, rfl, G, Wp.heap.size, RK.out.ok, RK.out.ff, Nat.le_of_lt HX.out.wp, RK.out.ph.bel⟩
        · intro x c kl y1 y2 w' cnt' hkey hlk hv hat hrg1 hlt1 hgr hsz1 hen
          obtain ⟨s, hs, rfl, rfl, hds, hlf, hhs, hp2, hmp⟩ := RR.out.come (y := (y1, y2)) P.out SA.out hkey hlk hv hat hrg1 hgr
          simp only [Option.map] at hen
          have HPL : Hid (∀ x, PlcJ L dn D #[] 0 x (f x)) := RR.out.pl
          have HRG : Hid (w'.ranges Try.prog 9 ptrR w.heap.size (W1.heap.size + 1) L.length Dm (fun z => left z && !z.sameKey kl) cnt') := hrg1
          have HP2 : Hid (∃ cb nb pb ow, Ph2 g w W1 L Q rb cp vS dn D cb nb pb ow w') := hp2
          have HMP : Hid (AMap w' W1.heap.size g.pt (fun i => i < g.m) f) := hmp
          have HLF : Hid (∀ t (ht : t < L.length), (left (.string L[t].data.toList) && !(Lit.string L[t].data.toList).sameKey kl) = !(if t = s then true else dn t)) := hlf
          have HHS : Hid (∀ kl', (left kl' && !kl'.sameKey kl) = true → Maps.has Dm kl' = true) := hhs
          have HDS : Hid (dn s = false) := hds
          have hnb : (rcv g g.m L[s]).length ≤ g.m := rcv_len g g.m L[s]
          have hlink : Calls Try.prog 35 #[.pointer (some ⟨Q s, 0, none⟩)] w' fun e w3 => e = .returned (.tuple #[]) ∧ ∃ Ds, R3 g w W1 L Q rb cp vS Dm dn D s Ds (fun z => left z && !z.sameKey kl) cnt' 0 w3 ∧ Ord g L[s] Ds := by
            obtain ⟨cb, nb, pb, ow, p2⟩ := hp2
            obtain ⟨o1, o2⟩ := p2.und s hs hds
            have h1 : 1 ≤ (rcv g g.m L[s]).length := by
              obtain ⟨i, hi, hri, hoi⟩ := (P.out.mem L[s]).1 (List.getElem_mem hs)
              exact List.length_pos_of_mem (mem_rcv.2 ⟨hi, hri, hoi⟩)
            have hlo := P.out.lo s hs
            have hr : w.heap.size + 1 ≤ rb s ∧ rb s < W1.heap.size := (P.out.br s hs).lt _ rfl
            refine (link_any g w w' (Q s) (rb s) _ (cp s) (rcvA g L[s]) HL.out p2.bel (by omega) h1 (by omega) o1 (P.out.qr s s hs hs) (by omega) o2 (by simp [rcvA]) (fun i hi => rcvA_ok hi)).mono ?_
            rintro e w3 ⟨he, hk⟩
            exact ⟨he, R3.start P.out HRG.out HP2.out HMP.out HPL.out hs hds hk⟩
          clear hrg1 hgr hsz1 hp2 hmp hlf hhs hat hv hkey hlk RR hrg hds
          go_wp2_with fail
          refine hlink.mono ?_
          rintro e w3 ⟨rfl, Ds, R30, hO⟩
          have r0 := (R30.row hs).1
          have hO' : Hid (Ord g L[s] Ds) := hO
          have HR30 : Hid _ := R30
          have hDs : Ds.size ≤ 1024 := by rw [hO.size]; omega
          clear hlink hO R30 HP2 HMP HPL HRG
          go_wp2_with fail
          go_loopg [86] Ds.size (fun kj s86 wr3 => ∃ j : Nat, j ≤ Ds.size ∧ s86 = .int .i64 j ∧ Ds.size - j ≤ kj ∧ Hid (R3 g w W1 L Q rb cp vS Dm dn D s Ds (fun z => left z && !z.sameKey kl) cnt' j wr3))
          case atStart => exact ⟨0, Nat.zero_le _, rfl, by omega, HR30⟩
          case round =>
            clear HR30 r0
            obtain ⟨j, hj, rfl, hkj, RJ⟩ := hrel
            by_cases hjl : j < Ds.size
            · have c0 := (RJ.out.row hs).2 j hjl
              obtain ⟨W', hst, RJ'⟩ := RJ.out.store P.out HL.out (by rw [getElem!_pos L s hs]; exact hO'.out) hjl
              have HRJ' : Hid _ := RJ'
              have hjz : (j : Int) < (Ds.size : Int) := by omega
              clear RJ RJ'
              generalize g.E Ds[j]! = ej at c0 hst
              go_wp2
              go_roundg (Ds.size - (j + 1))
              case measure => omega
              case rel => exact ⟨j + 1, by omega, by go_num, Nat.le_refl _, HRJ'⟩
            · obtain rfl : j = Ds.size := by omega
              have hjz : ¬ (Ds.size : Int) < (Ds.size : Int) := by omega
              obtain ⟨f', hR2⟩ := RJ.out.done hs HDS.out HLF.out HHS.out
              have HR2 : Hid _ := hR2
              clear RJ hR2
              go_wp2
              go_roundg cnt'
              case measure => omega
              case rel => exact ⟨_, _, f', _, cnt', Nat.le_refl _, HR2⟩

end Go.Proofs.Qxb6609005a
