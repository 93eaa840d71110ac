import Derived.Test.Qxb6608767aW1
import Derived.Deep.LoopGhost
namespace Go.Proofs.Qxb6608767a
open Go.RowKit
set_option linter.unusedSimpArgs false
set_option linter.unusedVariables false

/-- the state of a binary search: all below lo answer yes, all from hi on no -/
def Span (f : Nat → ByteArray) (q : ByteArray) (n lo hi : Nat) : Prop := (∀ t, t < lo → cmpB (f t) q < 0) ∧ (∀ t, hi ≤ t → t < n → ¬ cmpB (f t) q < 0)
/-- a test that holds at one place holds at all before -/
def Mono (f : Nat → ByteArray) (q : ByteArray) (n : Nat) : Prop := ∀ i j, i ≤ j → j < n → cmpB (f j) q < 0 → cmpB (f i) q < 0

theorem Span.start (f : Nat → ByteArray) (q : ByteArray) (n : Nat) : Span f q n 0 n := ⟨fun t ht => absurd ht (Nat.not_lt_zero _), fun t h1 h2 => by omega⟩
theorem Span.up {f : Nat → ByteArray} {q : ByteArray} {n lo hi h : Nat} (s : Span f q n lo hi) (m : Mono f q n) (hh : h < n) (c : cmpB (f h) q < 0) : Span f q n (h + 1) hi :=
  ⟨fun t ht => m t h (by omega) hh c, s.2⟩
theorem Span.down {f : Nat → ByteArray} {q : ByteArray} {n lo hi h : Nat} (s : Span f q n lo hi) (m : Mono f q n) (c : ¬ cmpB (f h) q < 0) : Span f q n lo h :=
  ⟨s.1, fun t ht hn d => c (m h t ht hn d)⟩

/-- what a search hands back -/
def Found (f : Nat → ByteArray) (q : ByteArray) (n : Nat) (e : Ending) : Prop :=
  ∃ k : Nat, k ≤ n ∧ Span f q n k k ∧ e = .returned (.tuple #[.int .i64 k, .bool (decide (k < n) && (cmpB (f k) q == 0))])

set_option maxHeartbeats 400000 in
theorem bsf14 (g n : Nat) (nm : Nat → ByteArray) (vl : Nat → Int) (q : ByteArray) (w : World) (hn : n ≤ 4096)
    (hc : ∀ i, i < n → w.cell? ⟨g, i * 2, none⟩ = some (.string (nm i))) (hv : ∀ i, i < n → w.cell? ⟨g, i * 2 + 1, none⟩ = some (.int .i64 (vl i))) (hg : g < w.heap.size)
    (hm : Mono nm q n) :
    Calls Try.prog 14 #[.slice (some ⟨g, 0, none⟩) n n, .string q, .func (.func 15) #[] #[]] w fun e w' => Found nm q n e ∧ Below w.heap.size w w' := by
  go_enter Try.func14, Try.ntmps14
  go_wp2
  go_loopg [9, 10] n (fun kx s9 s10 wr => ∃ lo hi : Nat, s9 = .int .i64 lo ∧ s10 = .int .i64 hi ∧ lo ≤ hi ∧ hi ≤ n ∧ hi - lo ≤ kx ∧ Hid (Below w.heap.size w wr) ∧ Hid (Span nm q n lo hi))
  case atStart => exact ⟨0, n, rfl, rfl, Nat.zero_le _, Nat.le_refl _, by omega, Below.refl _ _, Span.start _ _ _⟩
  case round =>
    obtain ⟨lo, hi, rfl, rfl, hlh, hin, hgh, hb, hs⟩ := hrel
    by_cases hlt : lo < hi
    · have c1 : wr.cell? ⟨g, (lo + hi) / 2 * 2, none⟩ = some (.string (nm ((lo + hi) / 2))) := by rw [hb.out.cell hg]; exact hc _ (by omega)
      have c2 : wr.cell? ⟨g, (lo + hi) / 2 * 2 + 1, none⟩ = some (.int .i64 (vl ((lo + hi) / 2))) := by rw [hb.out.cell hg]; exact hv _ (by omega)
      by_cases hx : cmpB (nm ((lo + hi) / 2)) q < 0
      · go_wp2_with (go_at_call 15; refine (search1_any _ _ _ _).mono ?_; rintro e w' ⟨rfl, o, rfl⟩)
        go_roundg (hi - ((lo + hi) / 2 + 1))
        case measure => omega
        case rel =>
          exact ⟨(lo + hi) / 2 + 1, hi, by rw [show ((lo : Int) + (hi : Int)) / 2 + 1 = (((lo + hi) / 2 + 1 : Nat) : Int) by omega], rfl, by omega, hin, Nat.le_refl _, hb.out.alloc hb.out.size _, hs.out.up hm (by omega) hx⟩
      · go_wp2_with (go_at_call 15; refine (search1_any _ _ _ _).mono ?_; rintro e w' ⟨rfl, o, rfl⟩)
        go_roundg ((lo + hi) / 2 - lo)
        case measure => omega
        case rel =>
          exact ⟨lo, (lo + hi) / 2, rfl, by rw [show ((lo : Int) + (hi : Int)) / 2 = (((lo + hi) / 2 : Nat) : Int) by omega], by omega, by omega, Nat.le_refl _, hb.out.alloc hb.out.size _, hs.out.down hm (by omega)⟩
    · obtain rfl : hi = lo := by omega
      by_cases hk : hi < n
      · have c1 : wr.cell? ⟨g, hi * 2, none⟩ = some (.string (nm hi)) := by rw [hb.out.cell hg]; exact hc _ (by omega)
        have c2 : wr.cell? ⟨g, hi * 2 + 1, none⟩ = some (.int .i64 (vl hi)) := by rw [hb.out.cell hg]; exact hv _ (by omega)
        go_wp2_with (go_at_call 15; refine (search1_any _ _ _ _).mono ?_; rintro e w' ⟨rfl, o, rfl⟩)
        go_ret2
        exact ⟨⟨hi, hin, hs.out, by simp [hk]⟩, hb.out.alloc hb.out.size _⟩
      · go_wp2
        go_ret2
        exact ⟨⟨hi, hin, hs.out, by simp [hk]⟩, hb.out⟩

set_option maxHeartbeats 400000 in
theorem bsf17 (bb b g go n : Nat) (nm : Nat → ByteArray) (od : Nat → Int) (q : ByteArray) (w : World) (hn : n ≤ 4096)
    (hbb : w.cell? ⟨bb, 0, none⟩ = some (.pointer (some ⟨b, 0, none⟩))) (hb0 : w.cell? ⟨b, 0, none⟩ = some (.slice (some ⟨g, 0, none⟩) n n))
    (hpl : ∀ i, i < n → plN (od i) < n)
    (hc : ∀ i, i < n → w.cell? ⟨g, i * 2, none⟩ = some (.string (nm i))) (ho : ∀ i, i < n → w.cell? ⟨go, i, none⟩ = some (.int .u16 (od i)))
    (hm : Mono (fun k => nm (plN (od k))) q n) :
    Calls Try.prog 17 #[.slice (some ⟨go, 0, none⟩) n n, .string q, .func (.func 18) #[] #[.pointer (some ⟨bb, 0, none⟩)]] w fun e w' => Found (fun k => nm (plN (od k))) q n e ∧ ∃ m, w' = w.drewN m := by
  have call : ∀ i, i < n → ∀ m, Calls Try.prog 18 #[.int .u16 (od i), .string q, .pointer (some ⟨bb, 0, none⟩)] (w.drewN m) fun e w' => e = .returned (.int .i64 (cmpB (nm (plN (od i))) q)) ∧ ∃ m', w' = (w.drewN m).drewN m' :=
    fun i hi m => search2_any bb b g n (od i) (nm (plN (od i))) q (w.drewN m) hbb hb0 (hpl i hi) hn (hc _ (hpl i hi))
  have HC : Hid (∀ i, i < n → ∀ m, Calls Try.prog 18 #[.int .u16 (od i), .string q, .pointer (some ⟨bb, 0, none⟩)] (w.drewN m) fun e w' => e = .returned (.int .i64 (cmpB (nm (plN (od i))) q)) ∧ ∃ m', w' = (w.drewN m).drewN m') := call
  clear call
  have HM : Hid (Mono (fun k => nm (plN (od k))) q n) := hm
  clear hm
  go_enter Try.func17, Try.ntmps17
  go_wp2
  go_loopg [9, 10] n (fun kx s9 s10 wr => ∃ lo hi : Nat, s9 = .int .i64 lo ∧ s10 = .int .i64 hi ∧ lo ≤ hi ∧ hi ≤ n ∧ hi - lo ≤ kx ∧ (∃ m, wr = w.drewN m) ∧ Hid (Span (fun k => nm (plN (od k))) q n lo hi))
  case atStart => exact ⟨0, n, rfl, rfl, Nat.zero_le _, Nat.le_refl _, by omega, ⟨0, rfl⟩, Span.start _ _ _⟩
  case round =>
    obtain ⟨lo, hi, rfl, rfl, hlh, hin, hgh, ⟨m, rfl⟩, hs⟩ := hrel
    by_cases hlt : lo < hi
    · have c1 : w.cell? ⟨go, (lo + hi) / 2, none⟩ = some (.int .u16 (od ((lo + hi) / 2))) := ho _ (by omega)
      by_cases hx : cmpB (nm (plN (od ((lo + hi) / 2)))) q < 0
      · go_wp2_with (go_at_call 18; refine (HC.out _ (by omega) _).mono ?_; rintro e w' ⟨rfl, o, rfl⟩)
        go_roundg (hi - ((lo + hi) / 2 + 1))
        case measure => omega
        case rel =>
          exact ⟨(lo + hi) / 2 + 1, hi, by rw [show ((lo : Int) + (hi : Int)) / 2 + 1 = (((lo + hi) / 2 + 1 : Nat) : Int) by omega], rfl, by omega, hin, Nat.le_refl _, ⟨_, rfl⟩, hs.out.up HM.out (by omega) hx⟩
      · go_wp2_with (go_at_call 18; refine (HC.out _ (by omega) _).mono ?_; rintro e w' ⟨rfl, o, rfl⟩)
        go_roundg ((lo + hi) / 2 - lo)
        case measure => omega
        case rel =>
          exact ⟨lo, (lo + hi) / 2, rfl, by rw [show ((lo : Int) + (hi : Int)) / 2 = (((lo + hi) / 2 : Nat) : Int) by omega], by omega, by omega, Nat.le_refl _, ⟨_, rfl⟩, hs.out.down HM.out (by show ¬ cmpB (nm (plN (od ((lo + hi) / 2)))) q < 0; omega)⟩
    · obtain rfl : hi = lo := by omega
      by_cases hk : hi < n
      · have c1 : w.cell? ⟨go, hi, none⟩ = some (.int .u16 (od hi)) := ho _ (by omega)
        go_wp2_with (go_at_call 18; refine (HC.out _ (by omega) _).mono ?_; rintro e w' ⟨rfl, o, rfl⟩)
        go_ret2
        exact ⟨⟨hi, hin, hs.out, by simp [hk]⟩, ⟨_, rfl⟩⟩
      · go_wp2
        go_ret2
        exact ⟨⟨hi, hin, hs.out, by simp [hk]⟩, ⟨_, rfl⟩⟩

end Go.Proofs.Qxb6608767a
