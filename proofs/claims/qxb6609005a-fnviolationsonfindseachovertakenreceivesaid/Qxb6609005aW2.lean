import Derived.Test.Qxb6609005aW1
namespace Go.Proofs.Qxb6609005a
open Go.RowKit Go.WideMaps Go.Maps
set_option linter.unusedSimpArgs false
set_option linter.unusedVariables false

theorem law9 : Keyed Try.prog 9 := string_keyed Try.underlying9
theorem zero24 (w : World) : (zeroValue 24).run Try.prog w = .ok (.int .u32 0) w := by kernel_rfl
theorem wf_u32 {k : Nat} (h : k < 4294967296) : (Lit.int .u32 (k : Int)).wf = true := by
  simp [Lit.wf, IntKind.min, IntKind.max, IntKind.signed, IntKind.bits]; omega
theorem wrap_u32 {k : Nat} (h : k < 4294967296) : IntKind.u32.wrap (k : Int) = (k : Int) := by rw [IntKind.wrap_u32]; omega

/-- a map's datum: each of the first k names at its place -/
def MapIs (D : DataW Unit) (nm : Nat → ByteArray) (k : Nat) : Prop :=
  IsMap D ∧ ∀ s : ByteArray, (∀ i, idxOf nm s k = some i → D.atKey (.string s.data.toList) (.lit (.int .u32 0)) = .lit (.int .u32 (i : Nat)) ∧ Maps.has D (.string s.data.toList) = true) ∧
    (idxOf nm s k = none → Maps.has D (.string s.data.toList) = false)

theorem MapIs.start (nm : Nat → ByteArray) : MapIs (.map []) nm 0 := by
  refine ⟨isMap_empty, fun s => ⟨(fun i h => by cases h), fun _ => rfl⟩⟩

theorem key_inj {a b : ByteArray} (h : Lit.string a.data.toList = .string b.data.toList) : a = b := by
  injection h with h
  exact Go.WideShapes.bytes_inj h

theorem MapIs.step {D : DataW Unit} {nm : Nat → ByteArray} {k : Nat} (h : MapIs D nm k) : MapIs (D.put (.string (nm k).data.toList) (.lit (.int .u32 (k : Nat)))) nm (k + 1) := by
  obtain ⟨hm, hx⟩ := h
  refine ⟨hm.put _ _, fun s => ?_⟩
  by_cases e : nm k = s
  · subst e
    have hi : idxOf nm (nm k) (k + 1) = some k := by rw [idxOf, if_pos rfl]
    rw [hi]
    refine ⟨fun i h => ?_, fun h => by cases h⟩
    injection h with h; subst h
    exact ⟨atKey_put_same hm (show WideAt.IsKeyLit (.string _) from trivial) _ _, has_put_same hm (show WideAt.IsKeyLit (.string _) from trivial) _⟩
  · have hi : idxOf nm s (k + 1) = idxOf nm s k := by rw [idxOf, if_neg e]
    have hne : Lit.string s.data.toList ≠ .string (nm k).data.toList := fun h => e (key_inj h).symm
    rw [hi, atKey_put_other hne, has_put_other hne]
    exact hx s

/-- block bm is the map of the first n names to their places -/
def NumMap (w : World) (bm : Nat) (nm : Nat → ByteArray) (n : Nat) : Prop :=
  ∃ D : DataW Unit, w.ownsMap Try.prog 9 (plainElem Try.prog 24) bm n D ∧ MapIs D nm n

theorem NumMap.lt {w : World} {bm n : Nat} {nm : Nat → ByteArray} (h : NumMap w bm nm n) : bm < w.heap.size := by
  obtain ⟨D, h1, _⟩ := h; exact h1.lt
theorem NumMap.below {w w' : World} {bm n : Nat} {nm : Nat → ByteArray} (h : NumMap w bm nm n) (k : Below w.heap.size w w') : NumMap w' bm nm n := by
  have hlt := h.lt
  obtain ⟨D, ⟨es, clock, hb, F, hs, hD⟩, h2⟩ := h
  exact ⟨D, ⟨es, clock, by rw [k.block bm hlt]; exact hb, F, hs, hD⟩, h2⟩

set_option maxHeartbeats 1000000 in
theorem buildNumber_any (a0 : Option Addr) (n c0 : Nat) (nm : Nat → ByteArray) (w : World) (hn : n ≤ 131072) (h0 : Rd w a0 n (fun i => .string (nm i))) (hs : ∀ i, i < n → (nm i).size ≤ maxLen) :
    Calls Try.prog 12 #[.slice a0 n c0] w fun e w' => ∃ bm, e = .returned (.map (some bm)) ∧ NumMap w' bm nm n ∧ Below w.heap.size w w' := by
  have hmm := @run_makeMap Try.prog
  have H0 : Hid (Rd w a0 n (fun i => .string (nm i))) := h0
  have HS : Hid (∀ i, i < n → (nm i).size ≤ maxLen) := hs
  clear h0 hs
  go_enter Try.func12, Try.ntmps12
  go_wp2
  go_loopg [4] n (fun kx s wr => ∃ k : Nat, k ≤ n ∧ s = .int .i64 k ∧ n - k ≤ kx ∧ Hid (Below w.heap.size w wr) ∧ Hid (∃ D : DataW Unit, wr.ownsMap Try.prog 9 (plainElem Try.prog 24) w.heap.size k D ∧ MapIs D nm k))
  case atStart =>
    refine ⟨0, Nat.zero_le _, rfl, by omega, (Below.refl _ _).alloc (Nat.le_refl _) _, ?_⟩
    exact (⟨_, World.ownsMap_made _ _ _ _, MapIs.start nm⟩ : ∃ D : DataW Unit, (w.alloc (.map #[] 0)).ownsMap Try.prog 9 (plainElem Try.prog 24) w.heap.size 0 D ∧ MapIs D nm 0)
  case round =>
    obtain ⟨k, hk, rfl, hgh, hb, hM⟩ := hrel
    by_cases hlt : k < n
    · rcases H0.out with e0 | ⟨b0, o0, ha0, hb0, hc0⟩
      · omega
      have d0 : wr.cell? ⟨b0, o0 + k, none⟩ = some (.string (nm k)) := by rw [hb.out.cell hb0]; exact hc0 k hlt
      have hkey : keyOf Try.prog 9 (.string (nm k)) = some (.string (nm k).data.toList) := keyOf_string_mk Try.underlying9 (HS.out k hlt)
      have hwu := wrap_u32 (k := k) (by omega)
      obtain ⟨D, hown, hD⟩ := hM.out
      have HD : Hid (MapIs D nm k) := hD
      clear hc0 hD
      subst ha0
      go_wp2_with (at_mapUpdate; refine wpList_mapUpdate_own _ rfl _ _ _ 33 rfl 9 24 law9 Try.underlying33 _ w.heap.size k D rfl hown (by unfold maxLen; omega) _ _ _ rfl rfl hkey _ [] (plainElem_int Try.underlying24 (wf_u32 (by omega))) ?_)
      intro w1 hown1 hgrow1
      have R2 : Hid (Below w.heap.size w w1) := hb.out.grown hgrow1 hb.out.size (fun j hj => by cases hj; exact Nat.le_refl _)
      have R1 : Hid (∃ D : DataW Unit, w1.ownsMap Try.prog 9 (plainElem Try.prog 24) w.heap.size (k + 1) D ∧ MapIs D nm (k + 1)) := ⟨_, hown1, HD.out.step⟩
      clear hown1 hgrow1 hown
      go_wp2
      go_roundg (n - (k + 1))
      case measure => omega
      case rel => exact ⟨k + 1, by omega, by go_num, Nat.le_refl _, R2.out, R1.out⟩
    · obtain rfl : k = n := by omega
      go_wp2
      go_ret
      exact ⟨w.heap.size, rfl, hM.out, hb.out⟩

end Go.Proofs.Qxb6609005a
