import Derived.Test.Qxb6609005aS0
import Derived.Sort.WalkC4
import Derived.Shelf.Abstract
namespace Go.Proofs.Qxb6609005a
open Go.RowKit
set_option linter.unusedSimpArgs false
set_option linter.unusedVariables false
set_option linter.unusedSectionVars false
variable {α : Type} [Inhabited α] {Inv : World → Array α → Prop} {lt : α → α → Bool} {g : Nat} {lb : Array Value} {sf : Nat} {sb : Array Value} {row n : Nat}

set_option maxHeartbeats 8000000 in
set_option maxRecDepth 100000 in
theorem partition_any (S : Sorter Inv lt g lb sf sb row n) (a b pivot : Nat) (d : Array α) (w : World) (hI : Inv w d) (hap : a ≤ pivot) (hpb : pivot < b) (hb : b ≤ n) :
    Calls Try.prog 69 #[.agg #[.func (.func g) #[] lb, .func (.func sf) #[] sb], .int .i64 a, .int .i64 b, .int .i64 pivot] w fun e w' => e = .returned (.tuple #[.int .i64 (Sort.partition lt d a b pivot).1, .bool (Sort.partition lt d a b pivot).2.1]) ∧ Done Inv row w w' (Sort.partition lt d a b pivot).2.2 := by
  have hn := S.small
  have eg := S.enter
  have HS : Hid (Sorter Inv lt g lb sf sb row n) := S
  have F0 : Fr Inv row g lb sf sb w (w.alloc (.cells #[.func (.func g) #[] lb, .func (.func sf) #[] sb] 111)) d := Fr.start S hI
  clear hI S
  obtain ⟨w0, hsw0, F⟩ := F0.swap HS.out a pivot (a : Int) (pivot : Int) (by omega)
  clear F0
  obtain ⟨i, hi⟩ : ∃ i, i = a + 1 := ⟨_, rfl⟩
  obtain ⟨j, hj⟩ : ∃ j, j = b - 1 := ⟨_, rfl⟩
  obtain ⟨dk, hdk⟩ : ∃ dk, dk = Sort.swp d a pivot := ⟨_, rfl⟩
  rw [← hdk] at F
  have Hi : Hid (i = a + 1) := hi
  have Hj : Hid (j = b - 1) := hj
  have Hdk : Hid (dk = Sort.swp d a pivot) := hdk
  have hai : a < i := by omega
  have hij : i ≤ j + 1 := by omega
  have hjb : j < b := by omega
  have ei : (a : Int) + 1 = (i : Int) := by omega
  have ej : (b : Int) - 1 = (j : Int) := by omega
  clear hi hj hdk
  go_enter Try.func69, Try.ntmps69
  go_wp2
  clear hsw0 ei ej
  go_loopg [10] (j + 1 - i) (fun ky vi w1 => ∃ (i' : Nat), vi = .int .i64 i' ∧ i ≤ i' ∧ i' ≤ j + 1 ∧ j + 1 - i' ≤ ky ∧ Fr Inv row g lb sf sb w w1 dk ∧ Hid (Sort.scanUp (fun x => lt x dk[a]!) dk j i' = Sort.scanUp (fun x => lt x dk[a]!) dk j i))
  case atStart => exact ⟨i, rfl, Nat.le_refl _, hij, Nat.le_refl _, F, rfl⟩
  case round =>
    clear F
    obtain ⟨i', rfl, hii, hij', hky, F, hsc⟩ := hrel
    obtain ⟨v, hv⟩ : ∃ v : Bool, Hid (v = (decide (i' ≤ j) && lt dk[i']! dk[a]!)) := ⟨_, rfl⟩
    go_upto_region 3 with fail
    go_cut [30] from 21 to 32 (fun sx wx => sx = .bool v ∧ Fr Inv row g lb sf sb w wx dk)
    case first =>
      by_cases hle : i' ≤ j
      · have c0 := F.c0
        cases hlv : lt dk[i']! dk[a]! with
        | true =>
          have hl := F.less HS.out i' a (i' : Int) (a : Int) (by omega) hlv
          have e : v = true := by rw [hv.out, hlv]; simp [hle]
          clear hv
          go_wp2_with (go_at_fn g; refine hl.mono ?_; rintro e' w' ⟨rfl, F'⟩)
          go_meet
          case rel => exact ⟨by rw [e], F'⟩
        | false =>
          have hl := F.less HS.out i' a (i' : Int) (a : Int) (by omega) hlv
          have e : v = false := by rw [hv.out, hlv]; simp [hle]
          clear hv
          go_wp2_with (go_at_fn g; refine hl.mono ?_; rintro e' w' ⟨rfl, F'⟩)
          go_meet
          case rel => exact ⟨by rw [e], F'⟩
      · have e : v = false := by rw [hv.out]; simp [hle]
        clear hv
        go_wp2
        go_meet
        case rel => exact ⟨by rw [e], F⟩
    case rest =>
      clear F
      obtain ⟨rfl, F⟩ := hcut
      cases v with
      | true =>
        have hle : i' ≤ j ∧ lt dk[i']! dk[a]! = true := by simpa using hv.out.symm
        go_wp2
        go_roundg (j + 1 - (i' + 1))
        case measure => omega
        case rel => exact ⟨i' + 1, by go_num, by omega, by omega, Nat.le_refl _, F, (scanUp_go (fun x => lt x dk[a]!) dk j i' hle.1 (by simp [hle.2])).symm.trans hsc.out⟩
      | false =>
        have hi2 : Hid (i' = Sort.scanUp (fun x => lt x dk[a]!) dk j i) := (scanUp_end (fun x => lt x dk[a]!) dk j i' (by
          by_cases h : i' ≤ j
          · exact Or.inr (by have := hv.out; simp [h] at this; simpa using this)
          · exact Or.inl h)).symm.trans hsc.out
        clear hv
        go_wp2
        go_loopg [11] j (fun ky vj w2 => ∃ (j' : Nat), vj = .int .i64 j' ∧ j' ≤ j ∧ i' ≤ j' + 1 ∧ j' ≤ ky ∧ Fr Inv row g lb sf sb w w2 dk ∧ Hid (Sort.scanDown (fun x => !lt x dk[a]!) dk i' j' = Sort.scanDown (fun x => !lt x dk[a]!) dk i' j))
        case atStart => exact ⟨j, rfl, Nat.le_refl _, hij', Nat.le_refl _, F, rfl⟩
        case round =>
          clear F
          obtain ⟨j', rfl, hjj, hij2, hky2, F, hsd⟩ := hrel
          obtain ⟨v, hv⟩ : ∃ v : Bool, Hid (v = (decide (i' ≤ j') && !lt dk[j']! dk[a]!)) := ⟨_, rfl⟩
          go_upto_region 5 with fail
          go_cut [43] from 33 to 45 (fun sx wx => sx = .bool v ∧ Fr Inv row g lb sf sb w wx dk)
          case first =>
            by_cases hle : i' ≤ j'
            · have c0 := F.c0
              cases hlv : lt dk[j']! dk[a]! with
              | true =>
                have hl := F.less HS.out j' a (j' : Int) (a : Int) (by omega) hlv
                have e : v = false := by rw [hv.out, hlv]; simp [hle]
                clear hv
                go_wp2_with (go_at_fn g; refine hl.mono ?_; rintro e' w' ⟨rfl, F'⟩)
                go_meet
                case rel => exact ⟨by rw [e], F'⟩
              | false =>
                have hl := F.less HS.out j' a (j' : Int) (a : Int) (by omega) hlv
                have e : v = true := by rw [hv.out, hlv]; simp [hle]
                clear hv
                go_wp2_with (go_at_fn g; refine hl.mono ?_; rintro e' w' ⟨rfl, F'⟩)
                go_meet
                case rel => exact ⟨by rw [e], F'⟩
            · have e : v = false := by rw [hv.out]; simp [hle]
              clear hv
              go_wp2
              go_meet
              case rel => exact ⟨by rw [e], F⟩
          case rest =>
            clear F
            obtain ⟨rfl, F⟩ := hcut
            cases v with
            | true =>
              have hle : i' ≤ j' ∧ lt dk[j']! dk[a]! = false := by simpa using hv.out.symm
              go_wp2
              go_roundg (j' - 1)
              case measure => omega
              case rel => exact ⟨j' - 1, by go_num, by omega, by omega, Nat.le_refl _, F, (scanDown_go (fun x => !lt x dk[a]!) dk i' j' hle.1 (by omega) (by simp [hle.2])).symm.trans hsd.out⟩
            | false =>
              have hj2 : Hid (j' = Sort.scanDown (fun x => !lt x dk[a]!) dk i' j) := (scanDown_end (fun x => !lt x dk[a]!) dk i' j' (by
                by_cases h : i' ≤ j'
                · exact Or.inr (by have := hv.out; simp [h] at this; simpa using this)
                · exact Or.inl h)).symm.trans hsd.out
              clear hv
              by_cases hgt : j' < i'
              · have c1 := F.c1
                obtain ⟨w2, hsw, F2⟩ := F.swap HS.out j' a (j' : Int) (a : Int) (by omega)
                go_wp2
                go_ret2
                rw [part_first_break lt d a b pivot Hi.out Hj.out Hdk.out hi2.out hj2.out hgt]
                exact ⟨rfl, F2.done⟩
              · have hlt3 := part_scans_lt lt a i j dk (by omega) hi2.out hj2.out (by omega)
                have c1 := F.c1
                obtain ⟨w2, hsw, F2⟩ := F.swap HS.out i' j' (i' : Int) (j' : Int) (by omega)
                have PF : Hid (Sort.partition lt d a b pivot = ((Sort.partLoop lt a (i' + 1) (j' - 1) (Sort.swp dk i' j')).1, false, Sort.swp (Sort.partLoop lt a (i' + 1) (j' - 1) (Sort.swp dk i' j')).2 (Sort.partLoop lt a (i' + 1) (j' - 1) (Sort.swp dk i' j')).1 a)) := part_first_go lt d a b pivot Hi.out Hj.out Hdk.out hi2.out hj2.out (by omega)
                clear F Hi Hj Hdk hi2 hj2 hsc hsd hky hky2
                obtain ⟨i0, hi0⟩ : ∃ i0, i0 = i' + 1 := ⟨_, rfl⟩
                obtain ⟨j0, hj0⟩ : ∃ j0, j0 = j' - 1 := ⟨_, rfl⟩
                obtain ⟨d0, hd0⟩ : ∃ d0, d0 = Sort.swp dk i' j' := ⟨_, rfl⟩
                rw [← hi0, ← hj0, ← hd0] at PF
                rw [← hd0] at F2
                clear hd0
                go_wp2
                go_loopg [10, 11] b (fun kx vi vj wr => ∃ (i j : Nat) (dk : Array α), vi = .int .i64 i ∧ vj = .int .i64 j ∧ a < i ∧ i ≤ j + 1 ∧ j < b ∧ j + 1 - i ≤ kx ∧ Fr Inv row g lb sf sb w wr dk ∧ Hid (Sort.partLoop lt a i j dk = Sort.partLoop lt a i0 j0 d0))
                case atStart => exact ⟨i0, j0, d0, by rw [hi0]; go_num, by rw [hj0]; go_num, by omega, by omega, by omega, by omega, F2, rfl⟩
                case round =>
                  clear F2
                  obtain ⟨i, j, dk, rfl, rfl, hai, hij, hjb, hkx, F, AE⟩ := hrel
                  go_wp2
                  go_loopg [10] (j + 1 - i) (fun ky vi w1 => ∃ (i' : Nat), vi = .int .i64 i' ∧ i ≤ i' ∧ i' ≤ j + 1 ∧ j + 1 - i' ≤ ky ∧ Fr Inv row g lb sf sb w w1 dk ∧ Hid (Sort.scanUp (fun x => lt x dk[a]!) dk j i' = Sort.scanUp (fun x => lt x dk[a]!) dk j i))
                  case atStart => exact ⟨i, rfl, Nat.le_refl _, hij, Nat.le_refl _, F, rfl⟩
                  case round =>
                    clear F
                    obtain ⟨i', rfl, hii, hij', hky, F, hsc⟩ := hrel
                    obtain ⟨v, hv⟩ : ∃ v : Bool, Hid (v = (decide (i' ≤ j) && lt dk[i']! dk[a]!)) := ⟨_, rfl⟩
                    go_upto_region 13 with fail
                    go_cut [73] from 64 to 75 (fun sx wx => sx = .bool v ∧ Fr Inv row g lb sf sb w wx dk)
                    case first =>
                      by_cases hle : i' ≤ j
                      · have c0 := F.c0
                        cases hlv : lt dk[i']! dk[a]! with
                        | true =>
                          have hl := F.less HS.out i' a (i' : Int) (a : Int) (by omega) hlv
                          have e : v = true := by rw [hv.out, hlv]; simp [hle]
                          clear hv
                          go_wp2_with (go_at_fn g; refine hl.mono ?_; rintro e' w' ⟨rfl, F'⟩)
                          go_meet
                          case rel => exact ⟨by rw [e], F'⟩
                        | false =>
                          have hl := F.less HS.out i' a (i' : Int) (a : Int) (by omega) hlv
                          have e : v = false := by rw [hv.out, hlv]; simp [hle]
                          clear hv
                          go_wp2_with (go_at_fn g; refine hl.mono ?_; rintro e' w' ⟨rfl, F'⟩)
                          go_meet
                          case rel => exact ⟨by rw [e], F'⟩
                      · have e : v = false := by rw [hv.out]; simp [hle]
                        clear hv
                        go_wp2
                        go_meet
                        case rel => exact ⟨by rw [e], F⟩
                    case rest =>
                      clear F
                      obtain ⟨rfl, F⟩ := hcut
                      cases v with
                      | true =>
                        have hle : i' ≤ j ∧ lt dk[i']! dk[a]! = true := by simpa using hv.out.symm
                        go_wp2
                        go_roundg (j + 1 - (i' + 1))
                        case measure => omega
                        case rel => exact ⟨i' + 1, by go_num, by omega, by omega, Nat.le_refl _, F, (scanUp_go (fun x => lt x dk[a]!) dk j i' hle.1 (by simp [hle.2])).symm.trans hsc.out⟩
                      | false =>
                        have hi2 : Hid (i' = Sort.scanUp (fun x => lt x dk[a]!) dk j i) := (scanUp_end (fun x => lt x dk[a]!) dk j i' (by
                          by_cases h : i' ≤ j
                          · exact Or.inr (by have := hv.out; simp [h] at this; simpa using this)
                          · exact Or.inl h)).symm.trans hsc.out
                        clear hv
                        go_wp2
                        go_loopg [11] j (fun ky vj w2 => ∃ (j' : Nat), vj = .int .i64 j' ∧ j' ≤ j ∧ i' ≤ j' + 1 ∧ j' ≤ ky ∧ Fr Inv row g lb sf sb w w2 dk ∧ Hid (Sort.scanDown (fun x => !lt x dk[a]!) dk i' j' = Sort.scanDown (fun x => !lt x dk[a]!) dk i' j))
                        case atStart => exact ⟨j, rfl, Nat.le_refl _, hij', Nat.le_refl _, F, rfl⟩
                        case round =>
                          clear F
                          obtain ⟨j', rfl, hjj, hij2, hky2, F, hsd⟩ := hrel
                          obtain ⟨v, hv⟩ : ∃ v : Bool, Hid (v = (decide (i' ≤ j') && !lt dk[j']! dk[a]!)) := ⟨_, rfl⟩
                          go_upto_region 15 with fail
                          go_cut [86] from 76 to 88 (fun sx wx => sx = .bool v ∧ Fr Inv row g lb sf sb w wx dk)
                          case first =>
                            by_cases hle : i' ≤ j'
                            · have c0 := F.c0
                              cases hlv : lt dk[j']! dk[a]! with
                              | true =>
                                have hl := F.less HS.out j' a (j' : Int) (a : Int) (by omega) hlv
                                have e : v = false := by rw [hv.out, hlv]; simp [hle]
                                clear hv
                                go_wp2_with (go_at_fn g; refine hl.mono ?_; rintro e' w' ⟨rfl, F'⟩)
                                go_meet
                                case rel => exact ⟨by rw [e], F'⟩
                              | false =>
                                have hl := F.less HS.out j' a (j' : Int) (a : Int) (by omega) hlv
                                have e : v = true := by rw [hv.out, hlv]; simp [hle]
                                clear hv
                                go_wp2_with (go_at_fn g; refine hl.mono ?_; rintro e' w' ⟨rfl, F'⟩)
                                go_meet
                                case rel => exact ⟨by rw [e], F'⟩
                            · have e : v = false := by rw [hv.out]; simp [hle]
                              clear hv
                              go_wp2
                              go_meet
                              case rel => exact ⟨by rw [e], F⟩
                          case rest =>
                            clear F
                            obtain ⟨rfl, F⟩ := hcut
                            cases v with
                            | true =>
                              have hle : i' ≤ j' ∧ lt dk[j']! dk[a]! = false := by simpa using hv.out.symm
                              go_wp2
                              go_roundg (j' - 1)
                              case measure => omega
                              case rel => exact ⟨j' - 1, by go_num, by omega, by omega, Nat.le_refl _, F, (scanDown_go (fun x => !lt x dk[a]!) dk i' j' hle.1 (by omega) (by simp [hle.2])).symm.trans hsd.out⟩
                            | false =>
                              have hj2 : Hid (j' = Sort.scanDown (fun x => !lt x dk[a]!) dk i' j) := (scanDown_end (fun x => !lt x dk[a]!) dk i' j' (by
                                by_cases h : i' ≤ j'
                                · exact Or.inr (by have := hv.out; simp [h] at this; simpa using this)
                                · exact Or.inl h)).symm.trans hsd.out
                              clear hv
                              by_cases hgt : j' < i'
                              · have c1 := F.c1
                                obtain ⟨w2, hsw, F2⟩ := F.swap HS.out j' a (j' : Int) (a : Int) (by omega)
                                go_wp2
                                go_ret2
                                have e : Sort.partition lt d a b pivot = (j', false, Sort.swp dk j' a) := by rw [PF.out, ← AE.out, part_break lt a i j dk hi2.out hj2.out hgt]
                                rw [e]
                                exact ⟨rfl, F2.done⟩
                              · have hlt3 := part_scans_lt lt a i j dk (by omega) hi2.out hj2.out (by omega)
                                have c1 := F.c1
                                obtain ⟨w2, hsw, F2⟩ := F.swap HS.out i' j' (i' : Int) (j' : Int) (by omega)
                                go_wp2
                                go_roundg (j' - 1 + 1 - (i' + 1))
                                case measure => omega
                                case rel => exact ⟨i' + 1, j' - 1, _, by go_num, by go_num, by omega, by omega, by omega, Nat.le_refl _, F2, (show Hid _ from by rw [← AE.out]; exact (part_go lt a i j dk hi2.out hj2.out (by omega)).symm)⟩

end Go.Proofs.Qxb6609005a
