/- The walk of FnEventForTracksAdjacency at a list of 1 to 65536 numbers. -/
import Derived.Test.Qxb6602261aEvWalks
import Derived.Deep.QuietTactic
import Derived.BigQuiet
namespace Go.Proofs.Qxb6602261a.Ev
open Go.RowKit

theorem below_drewN {B : Nat} {a w : World} (h : Below B a w) (n : Nat) : Below B a (w.drewN n) := h.trans ⟨rfl, rfl, rfl, Nat.le_refl _, fun _ _ => rfl⟩

set_option maxHeartbeats 1000000 in
theorem tracks_some (b off len cap : Nat) (Z : Nat → Int) (w : World) (h1 : 1 ≤ len) (hlen : len ≤ 65536) (hb : b < w.heap.size)
    (hcell : ∀ i, i < len → w.cell? ⟨b, off + i, none⟩ = some (.int .i64 (Z i))) :
    Calls Try.prog 5 #[.slice (some ⟨b, off, none⟩) len cap] w fun e w' => e = .returned (.bool true) ∧ Below w.heap.size w w' := by
  have HC : Hid _ := hcell
  clear hcell
  go_enter Try.func5, Try.ntmps5
  go_wp2_with fail
  refine (bytes_any _ _ _ _ (by unfold maxLen; omega)).mono ?_
  rintro e w ⟨⟨bb, rfl⟩, rfl⟩
  cases bb
  · go_wp2_with fail
    go_ret
    exact ⟨rfl, Below.refl _ _⟩
  go_wp2_with fail
  refine (cloneInts_any b off len cap Z _ hlen hb HC.out).mono ?_
  rintro e w2 ⟨rfl, hrow, hbel⟩
  have hc0 := hrow.cell h1
  go_wp2_with fail
  refine (holds_any _ _).mono ?_
  rintro e w2 ⟨rfl, rfl⟩
  clear hc0
  have HRow : Hid (w2.rowIs w.heap.size 3 len (fun i => .int .i64 (Z i))) := hrow
  clear hrow
  go_wp2_with fail
  go_loopw [3, 4] (fun h i wr => ∃ k : Nat, k + 1 ≤ len ∧ i = .int .i64 ((k : Int) + 1) ∧ h = .bool (holdsB (Z k)) ∧ wr.rowIs w.heap.size 3 len (fun i => .int .i64 (Z i)) ∧ Below w.heap.size w wr)
    (fun _ i _ => len - (intOf i).toNat)
  case atStart => exact ⟨0, h1, rfl, rfl, HRow.out, hbel⟩
  case round =>
    obtain ⟨k, hk, rfl, rfl, hrow, hbw⟩ := hrel
    by_cases hlt : k + 1 < len
    · have hr0 : wr.cell? ⟨w.heap.size, k, none⟩ = some (.int .i64 (Z k)) := hrow.cell (by omega)
      have hr1 : wr.cell? ⟨w.heap.size, k + 1, none⟩ = some (.int .i64 (Z (k + 1))) := hrow.cell hlt
      have hi0 : ((k : Int) + 1).toNat = k + 1 := by omega
      have hwr : IntKind.i64.wrap (k : Int) = k := by rw [IntKind.wrap_i64]; omega
      have hb0 : (0 : Int) ≤ (k : Int) + 1 := by omega
      have hb1 : (k : Int) + 1 < (len : Int) := by omega
      have hb2 : (k : Int) < (len : Int) := by omega
      obtain ⟨kk, o, hev, hE⟩ := event_any (Z k) (Z (k + 1))
      have hho : ∀ W, Calls Try.prog 17 #[.int .i64 (Z (k + 1))] W fun e w' => e = .returned (.bool (holdsB (Z (k + 1)))) ∧ w' = W := holds_any (Z (k + 1))
      unfold Ev at hE
      generalize hg1 : holdsB (Z k) = g1 at *
      generalize hg2 : holdsB (Z (k + 1)) = g2 at *
      have HG2 : Hid (holdsB (Z (k + 1)) = g2) := hg2
      have HR : Hid (wr.rowIs w.heap.size 3 len (fun i => .int .i64 (Z i))) := hrow
      clear hg1 hg2 HC hrow
      have HEV : Hid _ := hev
      have HHO : Hid _ := hho
      clear hev hho
      go_wp2_with fail
      rcases hE with ⟨rfl, hE⟩ | ⟨rfl, rfl, rfl, rfl⟩ | ⟨rfl, rfl, rfl, rfl⟩ | ⟨rfl, hE, rfl, rfl⟩
      · subst hE
        go_quiet ((go_at_call 12; exact Calls.quiet_of_same (HEV.out _)))
        go_wp2_with (go_at_call 17; refine (HHO.out _).mono ?_; rintro e w3 ⟨rfl, rfl⟩)
        go_roundw
        case rel => exact ⟨k + 1, by omega, by go_num, by rw [HG2.out], HR.out, below_drewN hbw _⟩
        case measure => simp [intOf]; omega
      · go_quiet ((go_at_call 12; exact Calls.quiet_of_same (HEV.out _)))
        go_wp2_with (go_at_call 17; refine (HHO.out _).mono ?_; rintro e w3 ⟨rfl, rfl⟩)
        go_roundw
        case rel => exact ⟨k + 1, by omega, by go_num, by rw [HG2.out], HR.out, below_drewN hbw _⟩
        case measure => simp [intOf]; omega
      · go_quiet ((go_at_call 12; exact Calls.quiet_of_same (HEV.out _)))
        go_wp2_with (go_at_call 17; refine (HHO.out _).mono ?_; rintro e w3 ⟨rfl, rfl⟩)
        go_roundw
        case rel => exact ⟨k + 1, by omega, by go_num, by rw [HG2.out], HR.out, below_drewN hbw _⟩
        case measure => simp [intOf]; omega
      · rcases hE with rfl | rfl
        all_goals
          go_quiet ((go_at_call 12; exact Calls.quiet_of_same (HEV.out _)))
          go_wp2_with (go_at_call 17; refine (HHO.out _).mono ?_; rintro e w3 ⟨rfl, rfl⟩)
          go_roundw
          case rel => exact ⟨k + 1, by omega, by go_num, by rw [HG2.out], HR.out, below_drewN hbw _⟩
          case measure => simp [intOf]; omega
    · clear hrow
      go_wp2
      go_ret
      exact ⟨rfl, hbw⟩

/-- .. at a list that is empty or too long. -/
theorem tracks_edge (a : Option Addr) (len cap : Nat) (w : World) (hl : len = 0 ∨ 65536 < len) (hm : len ≤ maxLen) :
    Calls Try.prog 5 #[.slice a len cap] w fun e w' => e = .returned (.bool true) ∧ Below w.heap.size w w' := by
  have HM : Hid (len ≤ maxLen) := hm
  unfold maxLen at hm
  rcases hl with rfl | hl
  · go_enter Try.func5, Try.ntmps5
    go_wp2_with fail
    refine (bytes_any _ _ _ _ HM.out).mono ?_
    rintro e w ⟨⟨bb, rfl⟩, rfl⟩
    cases bb
    · go_wp2_with fail
      go_ret
      exact ⟨rfl, Below.refl _ _⟩
    · go_wp2_with fail
      go_ret
      exact ⟨rfl, Below.refl _ _⟩
  · go_enter Try.func5, Try.ntmps5
    go_wp2_with fail
    refine (bytes_any _ _ _ _ HM.out).mono ?_
    rintro e w ⟨⟨bb, rfl⟩, rfl⟩
    cases bb
    · go_wp2_with fail
      go_ret
      exact ⟨rfl, Below.refl _ _⟩
    · go_wp2_with fail
      go_ret
      exact ⟨rfl, Below.refl _ _⟩
end Go.Proofs.Qxb6602261a.Ev
