/- Slices of strings in memory: what the walks are told of them; the contracts of the functions that only read them. -/
import Derived.Test.Qxb6602261aProg
import Derived.Test.Qxb6602261aPlain
import Derived.WalkKit
import Derived.WalkSpells
import Derived.WalkLawsBesides
import Derived.Deep.OwnRows
import Derived.Deep.QuietTactic
import Derived.BigQuiet
namespace Go.Proofs.Qxb6602261a.Nm
open Go.RowKit

/-- The slice's first n cells hold the strings S 0 .. S (n - 1). -/
def StrsAt (w : World) (a : Option Addr) (n : Nat) (S : Nat → ByteArray) : Prop :=
  ∀ i, i < n → ∃ b o, a = some ⟨b, o, none⟩ ∧ w.cell? ⟨b, o + i, none⟩ = some (.string (S i))

theorem StrsAt.zero (w : World) (a : Option Addr) (S : Nat → ByteArray) : StrsAt w a 0 S := fun _ h => by omega
theorem StrsAt.split {w : World} {a : Option Addr} {n : Nat} {S : Nat → ByteArray} (h : StrsAt w a n S) (h0 : 0 < n) :
    ∃ b o, a = some ⟨b, o, none⟩ ∧ b < w.heap.size ∧ ∀ i, i < n → w.cell? ⟨b, o + i, none⟩ = some (.string (S i)) := by
  obtain ⟨b, o, ha, hc⟩ := h 0 h0
  refine ⟨b, o, ha, World.block_lt_of_cell? w _ hc, fun i hi => ?_⟩
  obtain ⟨b', o', ha', hc'⟩ := h i hi
  rw [ha] at ha'
  obtain ⟨rfl, rfl⟩ : b = b' ∧ o = o' := by simpa using ha'
  exact hc'
theorem StrsAt.cell {w : World} {b o n : Nat} {S : Nat → ByteArray} (h : StrsAt w (some ⟨b, o, none⟩) n S) {i : Nat} (hi : i < n) :
    w.cell? ⟨b, o + i, none⟩ = some (.string (S i)) := by
  obtain ⟨b', o', ha', hc'⟩ := h i hi
  obtain ⟨rfl, rfl⟩ : b = b' ∧ o = o' := by simpa using ha'
  exact hc'
theorem StrsAt.below {w w' : World} {a : Option Addr} {n : Nat} {S : Nat → ByteArray} (h : StrsAt w a n S) (hb : Below w.heap.size w w') : StrsAt w' a n S := by
  intro i hi
  obtain ⟨b, o, ha, hc⟩ := h i hi
  exact ⟨b, o, ha, (hb.cell (p := ⟨b, o + i, none⟩) (World.block_lt_of_cell? w _ hc)).trans hc⟩
theorem StrsAt.drewN {w : World} {a : Option Addr} {n : Nat} {S : Nat → ByteArray} (h : StrsAt w a n S) (m : Nat) : StrsAt (w.drewN m) a n S := h
theorem StrsAt.congr {w : World} {a : Option Addr} {n : Nat} {S S' : Nat → ByteArray} (h : StrsAt w a n S) (e : ∀ i, i < n → S i = S' i) : StrsAt w a n S' := by
  intro i hi
  obtain ⟨b, o, ha, hc⟩ := h i hi
  exact ⟨b, o, ha, by rw [hc, e i hi]⟩

theorem below_drewN {B : Nat} {a w : World} (h : Below B a w) (n : Nat) : Below B a (w.drewN n) := h.trans ⟨rfl, rfl, rfl, Nat.le_refl _, fun _ _ => rfl⟩

/-! ### zzb1Size -/
/-- What a size says of the list's length. -/
def SizeIs (n : Nat) (z : Int) : Prop := 0 ≤ z ∧ z ≤ 2097152 ∧ (z ≤ 1048576 → n ≤ 65536)
set_option maxHeartbeats 1000000 in
theorem size_any (a : Option Addr) (n cap : Nat) (S : Nat → ByteArray) (w : World) (hS : StrsAt w a n S) (hn : n ≤ maxLen) :
    Calls Try.prog 19 #[.slice a n cap] w fun e w' => ∃ z : Int, e = .returned (.int .i64 z) ∧ SizeIs n z ∧ w' = w := by
  unfold maxLen at hn
  by_cases hl : n ≤ 65536
  · go_enter Try.func19, Try.ntmps19
    go_wp2
    go_loop [3, 4] (fun t i => ∃ (k : Nat) (z : Int), k ≤ n ∧ i = .int .i64 k ∧ t = .int .i64 z ∧ 0 ≤ z ∧ z ≤ 1048576) (fun _ i => n - (intOf i).toNat)
    case atStart => exact ⟨0, _, Nat.zero_le _, rfl, rfl, by omega, by omega⟩
    case round =>
      obtain ⟨k, z, hk, rfl, rfl, hz0, hz1⟩ := hrel
      by_cases hlt : k < n
      · obtain ⟨b, o, rfl, hc⟩ := hS k hlt
        clear hS
        generalize S k = s at hc
        by_cases h1 : s.size ≤ 1048576
        · by_cases h2 : z + s.size ≤ 1048576
          · go_wp2
            go_round
            case rel => exact ⟨k + 1, z + s.size, by omega, by go_num, by go_num, by omega, by omega⟩
            case measure => simp [intOf]; omega
          · go_wp2
            go_ret
            exact ⟨_, rfl, ⟨by omega, by omega, fun h => hl⟩, rfl⟩
        · go_wp2
          go_ret
          exact ⟨_, rfl, ⟨by omega, by omega, fun h => hl⟩, rfl⟩
      · go_wp2
        go_ret
        exact ⟨_, rfl, ⟨by omega, by omega, fun h => hl⟩, rfl⟩
  · go_enter Try.func19, Try.ntmps19
    go_wp2
    go_ret
    exact ⟨_, rfl, ⟨by omega, by omega, by omega⟩, rfl⟩

/-! ### Worlds that part in draws alone -/
def Drew (w w' : World) : Prop := ∃ m, w' = w.drewN m
theorem Drew.refl (w : World) : Drew w w := ⟨0, rfl⟩
theorem Drew.drewN {w w' : World} (h : Drew w w') (n : Nat) : Drew w (w'.drewN n) := by
  obtain ⟨m, rfl⟩ := h
  exact ⟨m + n, World.drewN_drewN _ _ _⟩
theorem Drew.below {w w' : World} (h : Drew w w') (B : Nat) : Below B w w' := by
  obtain ⟨m, rfl⟩ := h
  exact below_drewN (Below.refl _ _) m
theorem Drew.size {w w' : World} (h : Drew w w') : w'.heap.size = w.heap.size := by
  obtain ⟨m, rfl⟩ := h
  rfl
theorem StrsAt.drew {w w' : World} {a : Option Addr} {n : Nat} {S : Nat → ByteArray} (h : StrsAt w a n S) (hd : Drew w w') : StrsAt w' a n S := by
  obtain ⟨m, rfl⟩ := hd
  exact h

/-! ### zzb1Ascending -/
/-- A true answer says that each neighbour's pair ascends. -/
def AscIs (n : Nat) (S : Nat → ByteArray) (b : Bool) : Prop := b = true → ∀ i, i + 1 < n → Lt (S i) (S (i + 1))

set_option maxHeartbeats 1000000 in
theorem asc_any (a : Option Addr) (n cap : Nat) (S : Nat → ByteArray) (w : World) (hS : StrsAt w a n S) (hn : n ≤ 65536) :
    Calls Try.prog 20 #[.slice a n cap] w fun e w' => ∃ b, (e = .returned (.bool b) ∧ AscIs n S b) ∧ Drew w w' := by
  go_enter Try.func20, Try.ntmps20
  go_wp2
  go_loopw [3] (fun i wr => ∃ k : Nat, k ≤ n ∧ i = .int .i64 ((k : Int) + 1) ∧ Hid (∀ j, j < k → j + 1 < n → Lt (S j) (S (j + 1))) ∧ Drew w wr) (fun i _ => n + 1 - (intOf i).toNat)
  case atStart => exact ⟨0, Nat.zero_le _, rfl, fun j hj => by omega, Drew.refl _⟩
  case round =>
    obtain ⟨k, hk, rfl, hup, hd⟩ := hrel
    by_cases hlt : k + 1 < n
    · obtain ⟨b, o, rfl, _, _⟩ := (hS.drew hd).split (by omega)
      have hc0 := (hS.drew hd).cell (i := k) (by omega)
      have hc1 := (hS.drew hd).cell (i := k + 1) hlt
      rw [← Nat.add_assoc] at hc1
      have hi0 : ((k : Int) + 1).toNat = k + 1 := by omega
      have hwr : IntKind.i64.wrap (k : Int) = k := by rw [IntKind.wrap_i64]; omega
      have hb0 : (0 : Int) ≤ (k : Int) + 1 := by omega
      have hb1 : (k : Int) + 1 < (n : Int) := by omega
      have hb2 : (k : Int) < (n : Int) := by omega
      have HD : Hid (Drew w wr) := hd
      clear hd hS
      by_cases hl : Lt (S k) (S (k + 1))
      · have hup' : Hid (∀ j, j < k + 1 → j + 1 < n → Lt (S j) (S (j + 1))) := by
          intro j hj hjn
          by_cases e : j = k
          · subst e; exact hl
          · exact hup.out j (by omega) hjn
        have hlb : Op.bytesLess (S k).toList (S (k + 1)).toList = true := hl
        clear hup hl
        go_wp2_with fail
        go_quiet (fail)
        go_wp2
        go_roundw
        case rel => exact ⟨k + 1, by omega, by go_num, hup', HD.out.drewN _⟩
        case measure => simp [intOf]; omega
      · have hlb : Op.bytesLess (S k).toList (S (k + 1)).toList = false := Lt.bool_false hl
        clear hup hl
        go_wp2_with fail
        go_quiet (fail)
        go_wp2
        go_ret
        exact ⟨false, ⟨rfl, fun h => absurd h (by simp)⟩, HD.out.drewN _⟩
    · have HD : Hid (Drew w wr) := hd
      clear hd hS
      go_wp2
      go_ret
      exact ⟨true, ⟨rfl, fun _ i hi => hup.out i (by omega) hi⟩, HD.out⟩

/-! ### zzb1Equal -/
set_option maxHeartbeats 1000000 in
theorem equal_any (a a' : Option Addr) (n cap n' cap' : Nat) (S S' : Nat → ByteArray) (w : World) (hS : StrsAt w a n S) (hS' : StrsAt w a' n' S') (hn : n ≤ 1048576) (he : n = n') (heq : ∀ i, i < n → S i = S' i) :
    Calls Try.prog 23 #[.slice a n cap, .slice a' n' cap'] w fun e w' => e = .returned (.bool true) ∧ Drew w w' := by
  subst he
  have HQ : Hid (∀ i, i < n → S i = S' i) := heq
  clear heq
  have hne : ((n : Int) != (n : Int)) = false := by simp
  go_enter Try.func23, Try.ntmps23
  go_wp2
  go_loopw [5] (fun i wr => ∃ k : Nat, k ≤ n ∧ i = .int .i64 k ∧ Drew w wr) (fun i _ => n - (intOf i).toNat)
  case atStart => exact ⟨0, Nat.zero_le _, rfl, Drew.refl _⟩
  case round =>
    obtain ⟨k, hk, rfl, hd⟩ := hrel
    by_cases hlt : k < n
    · obtain ⟨b, o, rfl, hc0⟩ := (hS.drew hd) k hlt
      obtain ⟨b', o', rfl, hc1⟩ := (hS'.drew hd) k hlt
      rw [← HQ.out k hlt] at hc1
      have hb1 : (k : Int) < (n : Int) := by omega
      have HD : Hid (Drew w wr) := hd
      clear hd hS hS'
      generalize S k = s at hc0 hc1
      go_wp2_with fail
      go_quiet (fail)
      go_wp2
      go_roundw
      case rel => exact ⟨k + 1, by omega, by go_num, HD.out.drewN _⟩
      case measure => simp [intOf]; omega
    · have HD : Hid (Drew w wr) := hd
      clear hd hS hS'
      go_wp2
      go_ret
      exact ⟨rfl, HD.out⟩

end Go.Proofs.Qxb6602261a.Nm
