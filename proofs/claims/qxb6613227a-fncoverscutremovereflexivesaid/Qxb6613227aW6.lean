import Derived.Test.Qxb6613227aW5
namespace Go.Proofs.Qxb6613227a
open Go.RowKit
set_option linter.unusedSimpArgs false
set_option linter.unusedVariables false

theorem ml {k : Nat} (h : k ≤ 20000) : k ≤ maxLen := by unfold maxLen; omega

/-- what FnCoversInsertOne lays: e with x put in at c, and w followed by it -/
theorem lay4 (w3 : World) (g gpe gpw N n0 n1 c x M KK o : Nat) (ge gw : Nat → Nat) (hc : c ≤ n0) (hM : n0 + 1 = M) (hK : n1 + M = KK) (hn : n0 ≤ 4096) (hn1 : n1 ≤ 4096) (hg1 : g < gpe) (hg2 : gpe < gpw) (hg3 : gpw < w3.heap.size) (hxq : x < N)
    (HE : Own w3 gpe n0 (fun i => pv (g + 1) (ge i))) (HW : Own w3 gpw n1 (fun i => pv (g + 1) (gw i))) (HO : Own w3 g N (fun i => pv (g + 1) i)) (NE : ∀ i, i < n0 → ge i < N) (NW : ∀ i, i < n1 → gw i < N)
    (ho : (c = n0 ∧ o = 0) ∨ (c ≠ n0 ∧ o = c)) :
    ∃ v1 v2 v3 v5 v6 : World,
      (∀ ty, (Builtin.append_ #[26, 26] ty #[.slice (some ⟨w3.heap.size, 0, none⟩) 0 M, .slice (some ⟨gpe, 0, none⟩) c n0]).run Try.prog (w3.alloc (.cells (madeCells #[.pointer none] M) 30)) = .ok (.slice (some ⟨w3.heap.size, 0, none⟩) c M) v1) ∧
      v1.cell? ⟨g, x, none⟩ = some (.pointer (some ⟨g + 1 + x, 0, none⟩)) ∧
      (∀ ty, (Builtin.append_ #[26, 26] ty #[.slice (some ⟨w3.heap.size, 0, none⟩) c M, .slice (some ⟨v1.heap.size, 0, none⟩) 1 1]).run Try.prog (v1.alloc (.cells #[.pointer (some ⟨g + 1 + x, 0, none⟩)] 30)) = .ok (.slice (some ⟨w3.heap.size, 0, none⟩) (c + 1) M) v2) ∧
      (∀ ty, (Builtin.append_ #[26, 26] ty #[.slice (some ⟨w3.heap.size, 0, none⟩) (c + 1) M, .slice (some ⟨gpe, o, none⟩) (n0 - c) (n0 - c)]).run Try.prog v2 = .ok (.slice (some ⟨w3.heap.size, 0, none⟩) M M) v3) ∧
      (∀ ty, (Builtin.append_ #[26, 26] ty #[.slice (some ⟨v3.heap.size, 0, none⟩) 0 KK, .slice (some ⟨gpw, 0, none⟩) n1 n1]).run Try.prog (v3.alloc (.cells (madeCells #[.pointer none] KK) 30)) = .ok (.slice (some ⟨v3.heap.size, 0, none⟩) n1 KK) v5) ∧
      (∀ ty, (Builtin.append_ #[26, 26] ty #[.slice (some ⟨v3.heap.size, 0, none⟩) n1 KK, .slice (some ⟨w3.heap.size, 0, none⟩) M M]).run Try.prog v5 = .ok (.slice (some ⟨v3.heap.size, 0, none⟩) KK KK) v6) ∧
      Below w3.heap.size w3 v6 ∧ Drops v6 (some ⟨w3.heap.size, 0, none⟩) M (g + 1) (ins ge c x) N ∧ Drops v6 (some ⟨v3.heap.size, 0, none⟩) KK (g + 1) (cat gw n1 (ins ge c x)) N := by
  have u0 : Buf (w3.alloc (.cells (madeCells #[.pointer none] M) 30)) 30 w3.heap.size M [] := Buf.made _ _ _ _
  have ua : Below w3.heap.size w3 (w3.alloc (.cells (madeCells #[.pointer none] M) 30)) := (Below.refl _ w3).alloc (Nat.le_refl _) _
  generalize w3.alloc (.cells (madeCells #[.pointer none] M) 30) = v0 at *
  have HE0 : Own v0 gpe n0 (fun i => pv (g + 1) (ge i)) := HE.below ua (by omega)
  obtain ⟨v1, ha1, hu1, he1⟩ := u0.more (ml (by omega)) 0 rfl (g + 1) ge c n0 (by omega) gpe 0 n0 _ (fun i hi => by rw [Nat.zero_add]; exact HE0.cell i hi) (by omega) (fun i _ => rfl) c (by omega)
  have X1 : Below w3.heap.size w3 v1 := he1.below ua (Nat.le_refl _)
  have hv0 : w3.heap.size < v0.heap.size := u0.lt
  have hv1 : v0.heap.size ≤ v1.heap.size := he1.size
  have hpx : v1.cell? ⟨g, x, none⟩ = some (.pointer (some ⟨g + 1 + x, 0, none⟩)) := (HO.below X1 (by omega)).cell x hxq
  rw [List.nil_append] at hu1
  obtain ⟨v2, ha2, hu2, he2⟩ := (hu1.keep (w' := v1.alloc (.cells #[.pointer (some ⟨g + 1 + x, 0, none⟩)] 30)) (Below.heap_alloc _ _ _ (by omega))).more (ml (by omega)) c (pvs_len _ _ _).symm (g + 1) (fun _ => x) 1 1 (by omega) v1.heap.size 0 1 (fun _ => pv (g + 1) x)
    (fun i hi => by have : i = 0 := by omega
                    subst this; rw [World.cell?_alloc_new]; rfl) (by omega) (fun i _ => rfl) (c + 1) rfl
  have X2 : Below w3.heap.size w3 v2 := he2.below (X1.alloc (by omega) _) (Nat.le_refl _)
  have HE2 : Own v2 gpe n0 (fun i => pv (g + 1) (ge i)) := HE.below X2 (by omega)
  obtain ⟨v3, ha3, hu3, he3⟩ := hu2.more (ml (by omega)) (c + 1) (by simp [pvs_len]) (g + 1) (fun i => ge (c + i)) (n0 - c) (n0 - c) (by omega) gpe o (n0 - c) (fun i => pv (g + 1) (ge (c + i)))
    (fun i hi => by have : o = c := by omega
                    subst this; exact HE2.cell (o + i) (by omega)) (by omega) (fun i _ => rfl) M (by omega)
  have U3 : Buf v3 30 w3.heap.size M (pvs (g + 1) (ins ge c x) M) := by
    have h := ins_list (g + 1) ge n0 c x hc
    rw [hM] at h
    rw [← h]; exact hu3
  have X3 : Below w3.heap.size w3 v3 := he3.below X2 (Nat.le_refl _)
  have hv3 : w3.heap.size < v3.heap.size := U3.lt
  have LI : ∀ i, i < M → ins ge c x i < N := by rw [← hM]; exact ins_lt NE hxq hc
  have t0 : Buf (v3.alloc (.cells (madeCells #[.pointer none] KK) 30)) 30 v3.heap.size KK [] := Buf.made _ _ _ _
  have X4 : Below v3.heap.size v3 (v3.alloc (.cells (madeCells #[.pointer none] KK) 30)) := (Below.refl _ v3).alloc (Nat.le_refl _) _
  have HW4 : Own (v3.alloc (.cells (madeCells #[.pointer none] KK) 30)) gpw n1 (fun i => pv (g + 1) (gw i)) := (HW.below X3 hg3).below X4 (by omega)
  obtain ⟨v5, ha5, hu5, he5⟩ := t0.more (ml (by omega)) 0 rfl (g + 1) gw n1 n1 (by omega) gpw 0 n1 _ (fun i hi => by rw [Nat.zero_add]; exact HW4.cell i hi) (by omega) (fun i _ => rfl) n1 (by omega)
  have X5 : Below v3.heap.size v3 v5 := he5.below X4 (Nat.le_refl _)
  have U5 : Buf v5 30 w3.heap.size M (pvs (g + 1) (ins ge c x) M) := U3.keep (X5.block _ hv3)
  rw [List.nil_append] at hu5
  obtain ⟨v6, ha6, hu6, he6⟩ := hu5.more (ml (by omega)) n1 (by simp [pvs_len]) (g + 1) (ins ge c x) M M (by omega) w3.heap.size 0 M _ U5.cells (by omega) (fun i _ => rfl) KK (by omega)
  have X6 : Below v3.heap.size v3 v6 := he6.below X5 (Nat.le_refl _)
  have U6 : Buf v6 30 w3.heap.size M (pvs (g + 1) (ins ge c x) M) := U3.keep (X6.block _ hv3)
  have V6 : Buf v6 30 v3.heap.size KK (pvs (g + 1) (cat gw n1 (ins ge c x)) KK) := by
    have h := cat_list (g + 1) gw n1 (ins ge c x) M
    rw [hK] at h
    rw [← h]; exact hu6
  exact ⟨v1, v2, v3, v5, v6, ha1, hpx, ha2, ha3, ha5, ha6, X3.trans (X6.mono (Nat.le_of_lt hv3)), U6.drops (ml (by omega)) LI, V6.drops (ml (by omega)) (by rw [← hK]; exact cat_lt NW LI)⟩

end Go.Proofs.Qxb6613227a
