import Derived.Test.Qxb6608865aLaw
namespace Go.Proofs.Qxb6608865a
open Go.RowKit
set_option linter.unusedSimpArgs false
set_option linter.unusedVariables false

/-- two rows filled side by side -/
theorem fill2 {w : World} {g1 g2 n k : Nat} {F1 F2 : Nat → Value} {v1 v2 : Value} (h1 : Fill w g1 n F1 k) (h2 : Fill w g2 n F2 k) (hne : g1 ≠ g2) (hk : k < n) (e1 : F1 k = v1) (e2 : F2 k = v2) :
    Fill ((w.setCell ⟨g1, k, none⟩ v1).setCell ⟨g2, k, none⟩ v2) g1 n F1 (k + 1) ∧ Fill ((w.setCell ⟨g1, k, none⟩ v1).setCell ⟨g2, k, none⟩ v2) g2 n F2 (k + 1) := by
  subst e1; subst e2
  exact ⟨(h1.set hk).other (Ne.symm hne) _, (h2.other (a := ⟨g1, k, none⟩) hne _).set hk⟩

theorem fill_cell {w : World} {g n k : Nat} {F : Nat → Value} (h : Fill w g n F k) (i : Nat) (hi : i < n) : ∃ v, w.cell? ⟨g, i, none⟩ = some v ∧ w.frozen? ⟨g, i, none⟩ = false := by
  obtain ⟨f, hf, _⟩ := h
  exact ⟨_, hf.cell i hi, hf.thaw i⟩

def insV (f : Nat → Int) (k : Nat) (v : Int) (i : Nat) : Value := .int .u64 (ins f k v i)
theorem insV_lt {f : Nat → Int} {k i : Nat} {v : Int} (h : i < k) : insV f k v i = .int .u64 (f i) := by rw [insV, ins_lt h]
theorem insV_at {f : Nat → Int} {k : Nat} {v : Int} : insV f k v k = .int .u64 v := by rw [insV, ins_at]
theorem insV_gt {f : Nat → Int} {k i : Nat} {v : Int} (h : k ≤ i) : insV f k v (i + 1) = .int .u64 (f i) := by rw [insV, ins_gt h]

def delV (f : Nat → Int) (k : Nat) (i : Nat) : Value := .int .u64 (del f k i)
theorem delV_remN {f : Nat → Int} {k j : Nat} (h : j ≠ k) : delV f k (remN k j) = .int .u64 (f j) := by rw [delV, del_remN h]

theorem Fill.rdk {w : World} {g n k : Nat} {F : Nat → Value} (h : Fill w g n F k) (hk : k ≤ n) : Rd w (some ⟨g, 0, none⟩) k F := by
  obtain ⟨f, hf, hx⟩ := h
  exact .inr ⟨g, 0, rfl, hf.lt, fun i hi => by rw [Nat.zero_add, hf.cell i (by omega), hx i hi]⟩
theorem Fill.lt {w : World} {g n k : Nat} {F : Nat → Value} (h : Fill w g n F k) : g < w.heap.size := by
  obtain ⟨f, hf, _⟩ := h
  exact hf.lt

end Go.Proofs.Qxb6608865a
