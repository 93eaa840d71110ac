import Derived.Test.Qxb6608767aRows
import Derived.WalkKit
import Derived.WalkSpells
import Derived.WalkLawsBesides
import Derived.Deep.QuietTactic
import Derived.BigQuiet
import Derived.Lib.Bytealg
import Derived.OpenShut
import Derived.Test.Qxb6608767aMath
namespace Go.Proofs.Qxb6608767a
open Go.RowKit
set_option linter.unusedSimpArgs false
set_option linter.unusedVariables false

theorem ret_int {k : IntKind} {a b : Int} (h : a = b) : Ending.returned (.int k a) = .returned (.int k b) := by rw [h]

/-- the comparison from place k on -/
def cmpFrom (a b : ByteArray) (k : Nat) : Int := Lib.compareBytes (a.data.toList.drop k) (b.data.toList.drop k)

theorem cmpFrom_zero (a b : ByteArray) : cmpFrom a b 0 = cmpB a b := by simp [cmpFrom, cmpB]

theorem cmpFrom_step (a b : ByteArray) (k : Nat) (ha : k < a.size) (hb : k < b.size) :
    cmpFrom a b k = if (a[k].toNat : Int) < b[k].toNat then -1 else if (b[k].toNat : Int) < a[k].toNat then 1 else cmpFrom a b (k + 1) := by
  unfold cmpFrom
  have la : k < a.data.toList.length := by simpa using ha
  have lb : k < b.data.toList.length := by simpa using hb
  rw [List.drop_eq_getElem_cons la, List.drop_eq_getElem_cons lb]
  have ea : a.data.toList[k] = a[k] := rfl
  have eb : b.data.toList[k] = b[k] := rfl
  rw [ea, eb]
  simp only [Lib.compareBytes, UInt8.lt_iff_toNat_lt, Int.ofNat_lt]

theorem cmpFrom_end (a b : ByteArray) (k : Nat) (h : a.size ≤ k ∨ b.size ≤ k) (ha : k ≤ a.size) (hb : k ≤ b.size) :
    cmpFrom a b k = if a.size < b.size then -1 else if b.size < a.size then 1 else 0 := by
  unfold cmpFrom
  have la : a.data.toList.length = a.size := by simp
  have lb : b.data.toList.length = b.size := by simp
  rcases Nat.lt_trichotomy a.size b.size with h1 | h1 | h1
  · have : k = a.size := by omega
    rw [if_pos h1, List.drop_eq_nil_of_le (by omega), List.drop_eq_getElem_cons (by omega : k < b.data.toList.length)]
    rfl
  · rw [if_neg (by omega), if_neg (by omega), List.drop_eq_nil_of_le (by omega), List.drop_eq_nil_of_le (by omega)]
    rfl
  · rw [if_neg (by omega), if_pos h1, (List.drop_eq_nil_of_le (by omega) : b.data.toList.drop k = []), List.drop_eq_getElem_cons (by omega : k < a.data.toList.length)]
    rfl

set_option maxHeartbeats 400000 in
theorem rbCmp_any (a b : ByteArray) (w : World) (ha : a.size ≤ maxLen) (hb : b.size ≤ maxLen) :
    Calls Try.prog 8 #[.string a, .string b] w fun e w' => e = .returned (.int .i64 (cmpB a b)) ∧ ∃ n, w' = w.drewN n := by
  unfold maxLen at ha hb
  by_cases hmin : b.size < a.size
  all_goals
    go_enter Try.func8, Try.ntmps8
    go_wp2
    go_loopw [6] (fun i wr => ∃ k : Nat, k ≤ a.size ∧ k ≤ b.size ∧ i = .int .i64 k ∧ Hid (cmpFrom a b k = cmpB a b) ∧ ∃ n, wr = w.drewN n) (fun i _ => a.size - (intOf i).toNat)
    case atStart => exact ⟨0, Nat.zero_le _, Nat.zero_le _, rfl, cmpFrom_zero a b, 0, rfl⟩
    case round =>
      obtain ⟨k, hk1, hk2, rfl, hc, nq, rfl⟩ := hrel
      by_cases hlt : k < a.size ∧ k < b.size
      · obtain ⟨h1, h2⟩ := hlt
        have HS : Hid (cmpFrom a b k = if (a[k].toNat : Int) < b[k].toNat then -1 else if (b[k].toNat : Int) < a[k].toNat then 1 else cmpFrom a b (k + 1)) := cmpFrom_step a b k h1 h2
        go_wp2
        go_quiet (fail)
        go_wp2
        · go_ret
          have h3 : a[k].toNat < b[k].toNat := by assumption
          refine ⟨ret_int ?_, by simp only [World.drewN_drewN, World.drew_drewN]; exact ⟨_, rfl⟩⟩
          rw [← hc.out, HS.out, if_pos (by omega)]
        · have h3 : ¬ a[k].toNat < b[k].toNat := by assumption
          go_quiet (fail)
          go_wp2
          · go_ret
            have h4 : b[k].toNat < a[k].toNat := by assumption
            refine ⟨ret_int ?_, by simp only [World.drewN_drewN, World.drew_drewN]; exact ⟨_, rfl⟩⟩
            rw [← hc.out, HS.out, if_neg (by omega), if_pos (by omega)]
          · have h4 : ¬ b[k].toNat < a[k].toNat := by assumption
            go_roundw
            case rel => exact ⟨k + 1, by omega, by omega, by go_num, by rw [← hc.out, HS.out, if_neg (by omega), if_neg (by omega)]; rfl, _, rfl⟩
            case measure => simp [intOf]; omega
      · have HE : Hid (cmpFrom a b k = if a.size < b.size then -1 else if b.size < a.size then 1 else 0) := cmpFrom_end a b k (by omega) hk1 hk2
        go_wp2
        all_goals
          go_ret
          refine ⟨ret_int ?_, _, rfl⟩
          rw [← hc.out, HE.out]
          first | rw [if_pos (by omega)] | rw [if_neg (by omega), if_pos (by omega)] | rw [if_neg (by omega), if_neg (by omega)]

set_option maxHeartbeats 400000 in
theorem bcmp_any (a b : ByteArray) (w : World) :
    Calls Try.prog 20 #[.string a, .string b] w fun e w' => e = .returned (.int .i64 (cmpB a b)) ∧ w' = w := by
  go_enter Try.func20, Try.ntmps20
  go_wp2
  rw [run_callFunc_extern Try.func21 (by kernel_rfl) (by kernel_rfl) (by kernel_rfl) (e := Extern.BytealgCompare.compare) (by kernel_rfl), Lib.run_compareString]
  simp only [Result.andThen]
  rw [Oper.upon_value]
  go_wp2
  go_ret
  exact ⟨rfl, rfl⟩

set_option maxHeartbeats 400000 in
theorem compare_any (a b : ByteArray) (w : World) :
    Calls Try.prog 16 #[.string a, .string b] w fun e w' => e = .returned (.int .i64 (cmpB a b)) ∧ w' = w := by
  go_enter Try.func16, Try.ntmps16
  go_wp2_with (go_at_call 20; refine (bcmp_any _ _ _).mono ?_; rintro e w' ⟨rfl, rfl⟩)
  go_ret
  exact ⟨rfl, rfl⟩

/-- the place that an order's number names: its low fifteen bits -/
def plN (p : Int) : Nat := (bits BinOp.andNot IntKind.u16 p 32768).toNat
theorem plN_eq (p : Int) : wrap64 (bits BinOp.andNot IntKind.u16 p 32768) = (plN p : Int) := by
  have h := bounds_u16 (wf_bits BinOp.andNot IntKind.u16 p 32768)
  unfold plN wrap64
  omega

set_option maxHeartbeats 400000 in
theorem place_any (p : Int) (w : World) :
    Calls Try.prog 19 #[.int .u16 p] w fun e w' => e = .returned (.int .i64 (plN p)) ∧ w' = w := by
  go_enter Try.func19, Try.ntmps19
  go_wp2
  go_ret
  exact ⟨ret_int (plN_eq p), rfl⟩

set_option maxHeartbeats 400000 in
theorem entry_any (b g n : Nat) (p : Int) (w : World) (h0 : w.cell? ⟨b, 0, none⟩ = some (.slice (some ⟨g, 0, none⟩) n n)) (hp : plN p < n) (hn : n ≤ 4096) :
    Calls Try.prog 13 #[.pointer (some ⟨b, 0, none⟩), .int .u16 p] w fun e w' => e = .returned (.pointer (some ⟨g, plN p * 2, none⟩)) ∧ ∃ m, w' = w.drewN m := by
  go_enter Try.func13, Try.ntmps13
  go_wp2
  go_quiet ((go_at_call 19; exact Calls.quiet_of_same (place_any _ _)))
  go_wp2
  go_ret
  exact ⟨rfl, _, rfl⟩

set_option maxHeartbeats 400000 in
theorem search1_any (nm q : ByteArray) (v : Int) (w : World) :
    Calls Try.prog 15 #[.agg #[.string nm, .int .i64 v], .string q] w fun e w' => e = .returned (.int .i64 (cmpB nm q)) ∧ ∃ o, w' = w.alloc o := by
  go_enter Try.func15, Try.ntmps15
  go_wp2_with (go_at_call 16; refine (compare_any _ _ _).mono ?_; rintro e w' ⟨rfl, rfl⟩)
  go_ret
  exact ⟨rfl, _, rfl⟩

set_option maxHeartbeats 400000 in
theorem search2_any (bb b g n : Nat) (p : Int) (nm q : ByteArray) (w : World) (hb : w.cell? ⟨bb, 0, none⟩ = some (.pointer (some ⟨b, 0, none⟩))) (h0 : w.cell? ⟨b, 0, none⟩ = some (.slice (some ⟨g, 0, none⟩) n n)) (hp : plN p < n) (hn : n ≤ 4096)
   (hc : w.cell? ⟨g, plN p * 2, none⟩ = some (.string nm)) :
    Calls Try.prog 18 #[.int .u16 p, .string q, .pointer (some ⟨bb, 0, none⟩)] w fun e w' => e = .returned (.int .i64 (cmpB nm q)) ∧ ∃ m, w' = w.drewN m := by
  go_enter Try.func18, Try.ntmps18
  go_wp2_with (first | (go_at_call 13; refine (entry_any b g n p _ h0 hp hn).mono ?_; rintro e w' ⟨rfl, nq, rfl⟩) | (go_at_call 16; refine (compare_any _ _ _).mono ?_; rintro e w' ⟨rfl, rfl⟩))
  go_ret
  exact ⟨rfl, _, rfl⟩

end Go.Proofs.Qxb6608767a
