import Derived.Test.Qxb6609005aS0
import Derived.Sort.WalkC4
import Derived.Shelf.Abstract
namespace Go.Proofs.Qxb6609005a
open Go.RowKit
set_option linter.unusedSimpArgs false
set_option linter.unusedVariables false
set_option linter.unusedSectionVars false
variable {α : Type} [Inhabited α] {Inv : World → Array α → Prop} {lt : α → α → Bool} {g : Nat} {lb : Array Value} {sf : Nat} {sb : Array Value} {row n : Nat}

set_option maxHeartbeats 4000000 in
set_option maxRecDepth 100000 in
theorem partitionEqual_any (S : Sorter Inv lt g lb sf sb row n) (a b pivot : Nat) (d : Array α) (w : World) (hI : Inv w d) (hap : a ≤ pivot) (hpb : pivot < b) (hb : b ≤ n) :
    Calls Try.prog 68 #[.agg #[.func (.func g) #[] lb, .func (.func sf) #[] sb], .int .i64 a, .int .i64 b, .int .i64 pivot] w fun e w' => e = .returned (.int .i64 (Sort.partitionEqual lt d a b pivot).1) ∧ Done Inv row w w' (Sort.partitionEqual lt d a b pivot).2 := by
  have hn := S.small
  have eg := S.enter
  have HS : Hid (Sorter Inv lt g lb sf sb row n) := S
  have F0 : Fr Inv row g lb sf sb w (w.alloc (.cells #[.func (.func g) #[] lb, .func (.func sf) #[] sb] 111)) d := Fr.start S hI
  clear hI S
  obtain ⟨w0, hsw0, F1⟩ := F0.swap HS.out a pivot (a : Int) (pivot : Int) (by omega)
  clear F0
  go_enter Try.func68, Try.ntmps68
  go_wp2
  go_loopg [9, 10] b (fun kx vi vj wr => ∃ (i j : Nat) (dk : Array α), vi = .int .i64 i ∧ vj = .int .i64 j ∧ a < i ∧ i ≤ j + 1 ∧ j < b ∧ j + 1 - i ≤ kx ∧ Fr Inv row g lb sf sb w wr dk ∧ Hid (Sort.partEqLoop lt a i j dk = Sort.partEqLoop lt a (a + 1) (b - 1) (Sort.swp d a pivot)))
  case atStart => exact ⟨a + 1, b - 1, _, by go_num, by go_num, by omega, by omega, by omega, by omega, F1, rfl⟩
  case round =>
    clear F1 hsw0
    obtain ⟨i, j, dk, rfl, rfl, hai, hij, hjb, hkx, F, AE⟩ := hrel
    go_wp2
    go_loopg [9] (j + 1 - i) (fun ky vi w1 => ∃ (i' : Nat), vi = .int .i64 i' ∧ i ≤ i' ∧ i' ≤ j + 1 ∧ j + 1 - i' ≤ ky ∧ Fr Inv row g lb sf sb w w1 dk ∧ Hid (Sort.scanUp (fun x => !lt dk[a]! x) dk j i' = Sort.scanUp (fun x => !lt dk[a]! x) dk j i))
    case atStart => exact ⟨i, rfl, Nat.le_refl _, hij, Nat.le_refl _, F, rfl⟩
    case round =>
      clear F
      obtain ⟨i', rfl, hii, hij', hky, F, hsc⟩ := hrel
      obtain ⟨v, hv⟩ : ∃ v : Bool, Hid (v = (decide (i' ≤ j) && !lt dk[a]! dk[i']!)) := ⟨_, rfl⟩
      go_upto_region 3 with fail
      go_cut [30] from 20 to 32 (fun sx wx => sx = .bool v ∧ Fr Inv row g lb sf sb w wx dk)
      case first =>
        by_cases hle : i' ≤ j
        · have c0 := F.c0
          cases hlv : lt dk[a]! dk[i']! with
          | true =>
            have hl := F.less HS.out a i' (a : Int) (i' : Int) (by omega) hlv
            have e : v = false := by rw [hv.out, hlv]; simp [hle]
            clear hv
            go_wp2_with (go_at_fn g; refine hl.mono ?_; rintro e' w' ⟨rfl, F'⟩)
            go_meet
            case rel => exact ⟨by rw [e], F'⟩
          | false =>
            have hl := F.less HS.out a i' (a : Int) (i' : Int) (by omega) hlv
            have e : v = true := by rw [hv.out, hlv]; simp [hle]
            clear hv
            go_wp2_with (go_at_fn g; refine hl.mono ?_; rintro e' w' ⟨rfl, F'⟩)
            go_meet
            case rel => exact ⟨by rw [e], F'⟩
        · have e : v = false := by rw [hv.out]; simp [hle]
          clear hv
          go_wp2
          go_meet
          case rel => exact ⟨by rw [e], F⟩
      case rest =>
        clear F
        obtain ⟨rfl, F⟩ := hcut
        cases v with
        | true =>
          have hle : i' ≤ j ∧ lt dk[a]! dk[i']! = false := by simpa using hv.out.symm
          go_wp2
          go_roundg (j + 1 - (i' + 1))
          case measure => omega
          case rel => exact ⟨i' + 1, by go_num, by omega, by omega, Nat.le_refl _, F, (scanUp_go (fun x => !lt dk[a]! x) dk j i' hle.1 (by simp [hle.2])).symm.trans hsc.out⟩
        | false =>
          have hi2 : Hid (i' = Sort.scanUp (fun x => !lt dk[a]! x) dk j i) := (scanUp_end (fun x => !lt dk[a]! x) dk j i' (by
            by_cases h : i' ≤ j
            · exact Or.inr (by have := hv.out; simp [h] at this; simpa using this)
            · exact Or.inl h)).symm.trans hsc.out
          clear hv
          go_wp2
          go_loopg [10] j (fun ky vj w2 => ∃ (j' : Nat), vj = .int .i64 j' ∧ j' ≤ j ∧ i' ≤ j' + 1 ∧ j' ≤ ky ∧ Fr Inv row g lb sf sb w w2 dk ∧ Hid (Sort.scanDown (fun x => lt dk[a]! x) dk i' j' = Sort.scanDown (fun x => lt dk[a]! x) dk i' j))
          case atStart => exact ⟨j, rfl, Nat.le_refl _, hij', Nat.le_refl _, F, rfl⟩
          case round =>
            clear F
            obtain ⟨j', rfl, hjj, hij2, hky2, F, hsd⟩ := hrel
            obtain ⟨v, hv⟩ : ∃ v : Bool, Hid (v = (decide (i' ≤ j') && lt dk[a]! dk[j']!)) := ⟨_, rfl⟩
            go_upto_region 5 with fail
            go_cut [42] from 33 to 44 (fun sx wx => sx = .bool v ∧ Fr Inv row g lb sf sb w wx dk)
            case first =>
              by_cases hle : i' ≤ j'
              · have c0 := F.c0
                cases hlv : lt dk[a]! dk[j']! with
                | true =>
                  have hl := F.less HS.out a j' (a : Int) (j' : Int) (by omega) hlv
                  have e : v = true := by rw [hv.out, hlv]; simp [hle]
                  clear hv
                  go_wp2_with (go_at_fn g; refine hl.mono ?_; rintro e' w' ⟨rfl, F'⟩)
                  go_meet
                  case rel => exact ⟨by rw [e], F'⟩
                | false =>
                  have hl := F.less HS.out a j' (a : Int) (j' : Int) (by omega) hlv
                  have e : v = false := by rw [hv.out, hlv]; simp [hle]
                  clear hv
                  go_wp2_with (go_at_fn g; refine hl.mono ?_; rintro e' w' ⟨rfl, F'⟩)
                  go_meet
                  case rel => exact ⟨by rw [e], F'⟩
              · have e : v = false := by rw [hv.out]; simp [hle]
                clear hv
                go_wp2
                go_meet
                case rel => exact ⟨by rw [e], F⟩
            case rest =>
              clear F
              obtain ⟨rfl, F⟩ := hcut
              cases v with
              | true =>
                have hle : i' ≤ j' ∧ lt dk[a]! dk[j']! = true := by simpa using hv.out.symm
                go_wp2
                go_roundg (j' - 1)
                case measure => omega
                case rel => exact ⟨j' - 1, by go_num, by omega, by omega, Nat.le_refl _, F, (scanDown_go (fun x => lt dk[a]! x) dk i' j' hle.1 (by omega) (by simp [hle.2])).symm.trans hsd.out⟩
              | false =>
                have hj2 : Hid (j' = Sort.scanDown (fun x => lt dk[a]! x) dk i' j) := (scanDown_end (fun x => lt dk[a]! x) dk i' j' (by
                  by_cases h : i' ≤ j'
                  · exact Or.inr (by have := hv.out; simp [h] at this; simpa using this)
                  · exact Or.inl h)).symm.trans hsd.out
                clear hv
                by_cases hgt : j' < i'
                · go_wp2
                  go_ret
                  have e : Sort.partitionEqual lt d a b pivot = (i', dk) := by unfold Sort.partitionEqual; rw [← AE.out, partEq_break lt a i j dk hi2.out hj2.out hgt]
                  rw [e]
                  exact ⟨rfl, F.done⟩
                · have hlt3 := scans_lt lt a i j dk (by omega) hi2.out hj2.out (by omega)
                  have c1 := F.c1
                  obtain ⟨w2, hsw, F2⟩ := F.swap HS.out i' j' (i' : Int) (j' : Int) (by omega)
                  go_wp2
                  go_roundg (j' - 1 + 1 - (i' + 1))
                  case measure => omega
                  case rel => exact ⟨i' + 1, j' - 1, _, by go_num, by go_num, by omega, by omega, by omega, Nat.le_refl _, F2, (show Hid _ from by rw [← AE.out]; exact (partEq_go lt a i j dk hi2.out hj2.out (by omega)).symm)⟩

end Go.Proofs.Qxb6609005a
