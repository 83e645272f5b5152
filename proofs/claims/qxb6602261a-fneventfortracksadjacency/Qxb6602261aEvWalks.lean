/- Walks shared by the two laws on eventFor: what eventFor, zzb1Holds and zzb1Class answer, by the classes of the states; the copy of a list of ints. -/
import Derived.Test.Qxb6602261aProg
import Derived.WalkKit
import Derived.WalkSpells
import Derived.Deep.OwnRows
namespace Go.Proofs.Qxb6602261a.Ev
open Go.RowKit

theorem classes (a : Int) : a = 3 ∨ a = 4 ∨ ((a == 3) = false ∧ (a == 4) = false) := by
  by_cases h3 : a = 3
  · exact .inl h3
  · by_cases h4 : a = 4
    · exact .inr (.inl h4)
    · exact .inr (.inr ⟨by simp [h3], by simp [h4]⟩)

/-- Does a state hold an adjacency? -/
def holdsB (a : Int) : Bool := a == 3 || a == 4

theorem holds_any (a : Int) (w : World) :
    Calls Try.prog 17 #[.int .i64 a] w fun e w' => e = .returned (.bool (holdsB a)) ∧ w' = w := by
  have key : ∃ o, holdsB a = o ∧ (a = 3 ∧ o = true ∨ a = 4 ∧ o = true ∨ ((a == 3) = false ∧ (a == 4) = false) ∧ o = false) := by
    rcases classes a with h | h | ⟨h, h'⟩
    · exact ⟨true, by simp [holdsB, h], .inl ⟨h, rfl⟩⟩
    · exact ⟨true, by simp [holdsB, h], .inr (.inl ⟨h, rfl⟩)⟩
    · exact ⟨false, by simp [holdsB, h, h'], .inr (.inr ⟨⟨h, h'⟩, rfl⟩)⟩
  obtain ⟨o, ho, hc⟩ := key
  rw [ho]
  clear ho
  rcases hc with ⟨rfl, rfl⟩ | ⟨rfl, rfl⟩ | ⟨⟨h, h'⟩, rfl⟩
  all_goals
    go_enter Try.func17, Try.ntmps17
    go_wp2
    go_ret
    exact ⟨rfl, rfl⟩

/-- What a move's event says of the adjacency. -/
def Ev (a b k : Int) (o : Bool) : Prop :=
  (o = false ∧ holdsB b = holdsB a) ∨ (o = true ∧ k = 0 ∧ holdsB a = false ∧ holdsB b = true) ∨
  (o = true ∧ k = 1 ∧ holdsB a = true ∧ holdsB b = false) ∨ (o = true ∧ (k = 2 ∨ k = 3) ∧ holdsB a = true ∧ holdsB b = true)

theorem event_any (a b : Int) : ∃ k o,
    (∀ w, Calls Try.prog 12 #[.int .i64 a, .int .i64 b] w fun e w' => e = .returned (.tuple #[.int .i64 k, .bool o]) ∧ w' = w) ∧ Ev a b k o := by
  rcases classes a with h | h | ⟨h, h'⟩
  · rcases classes b with g | g | ⟨g, g'⟩
    · refine ⟨0, false, fun w => ?_, by simp [Ev, holdsB, *]⟩
      subst h; subst g
      go_enter Try.func12, Try.ntmps12
      go_wp2
      go_ret2
      exact ⟨rfl, rfl⟩
    · refine ⟨2, true, fun w => ?_, by simp [Ev, holdsB, *]⟩
      subst h; subst g
      go_enter Try.func12, Try.ntmps12
      go_wp2
      go_ret2
      exact ⟨rfl, rfl⟩
    · refine ⟨1, true, fun w => ?_, by simp [Ev, holdsB, *]⟩
      subst h
      go_enter Try.func12, Try.ntmps12
      go_wp2
      go_ret2
      exact ⟨rfl, rfl⟩
  · rcases classes b with g | g | ⟨g, g'⟩
    · refine ⟨3, true, fun w => ?_, by simp [Ev, holdsB, *]⟩
      subst h; subst g
      go_enter Try.func12, Try.ntmps12
      go_wp2
      go_ret2
      exact ⟨rfl, rfl⟩
    · refine ⟨0, false, fun w => ?_, by simp [Ev, holdsB, *]⟩
      subst h; subst g
      go_enter Try.func12, Try.ntmps12
      go_wp2
      go_ret2
      exact ⟨rfl, rfl⟩
    · refine ⟨1, true, fun w => ?_, by simp [Ev, holdsB, *]⟩
      subst h
      go_enter Try.func12, Try.ntmps12
      go_wp2
      go_ret2
      exact ⟨rfl, rfl⟩
  · rcases classes b with g | g | ⟨g, g'⟩
    · refine ⟨0, true, fun w => ?_, by simp [Ev, holdsB, *]⟩
      subst g
      go_enter Try.func12, Try.ntmps12
      go_wp2
      go_ret2
      exact ⟨rfl, rfl⟩
    · refine ⟨0, true, fun w => ?_, by simp [Ev, holdsB, *]⟩
      subst g
      go_enter Try.func12, Try.ntmps12
      go_wp2
      go_ret2
      exact ⟨rfl, rfl⟩
    · refine ⟨0, false, fun w => ?_, by simp [Ev, holdsB, *]⟩
      go_enter Try.func12, Try.ntmps12
      go_wp2
      go_ret2
      exact ⟨rfl, rfl⟩

theorem set_step {n : Nat} (Z : Nat → Int) (k : Nat) : ∀ j, j < n → (fun j => if j = k then Value.int .i64 (Z k) else if j < k then .int .i64 (Z j) else .int .i64 0) j = (fun j => if j < k + 1 then Value.int .i64 (Z j) else .int .i64 0) j := by
  intro j _
  by_cases e : j = k
  · subst e; simp
  · simp only [if_neg e, show (j < k + 1) ↔ j < k from by omega]

theorem info3 : (Try.prog.info? 3).map (fun i => (i.zero, i.size, i.bytes)) = some (some (.int .i64 0), 1, 8) := by kernel_rfl

/-- zzb1CloneInts, at a list that is not empty: a row of its own at the heap's end. -/
theorem cloneInts_any (b off len cap : Nat) (Z : Nat → Int) (w : World) (hlen : len ≤ 65536) (hb : b < w.heap.size)
    (hcell : ∀ i, i < len → w.cell? ⟨b, off + i, none⟩ = some (.int .i64 (Z i))) :
    Calls Try.prog 16 #[.slice (some ⟨b, off, none⟩) len cap] w fun e w' =>
      e = .returned (.slice (some ⟨w.heap.size, 0, none⟩) len len) ∧ w'.rowIs w.heap.size 3 len (fun i => .int .i64 (Z i)) ∧ Below w.heap.size w w' := by
  have hnil : ∀ W, (binOp .eql 29 (.slice (some ⟨b, off, none⟩) len cap) (.slice none 0 0)).run Try.prog W = .ok (.bool false) W :=
    fun W => Lib.run_eql_slice_nil W _ _ _ _ _ _ _ Try.underlying29
  have hmk := run_make_row' (P := Try.prog) 29 3 (.int .i64 0) 8 Try.underlying29 info3 rfl .i64 .i64 len (by omega) (by omega)
  go_enter Try.func16, Try.ntmps16
  go_wp2
  go_loopw [4] (fun i wr => ∃ k : Nat, k ≤ len ∧ i = .int .i64 k ∧ wr.rowIs w.heap.size 3 len (fun j => if j < k then .int .i64 (Z j) else .int .i64 0) ∧ Below w.heap.size w wr)
    (fun i _ => len - (intOf i).toNat)
  case atStart => exact ⟨0, Nat.zero_le _, rfl, by simpa using World.rowIs_made _ _ _ _, (Below.refl _ _).alloc (Nat.le_refl _) _⟩
  case round =>
    obtain ⟨k, hk, rfl, hrow, hbel⟩ := hrel
    clear hmk hnil
    by_cases hlt : k < len
    · have hc : wr.cell? ⟨b, off + k, none⟩ = some (.int .i64 (Z k)) := (hbel.cell (by exact hb)).trans (hcell k hlt)
      have hr := hrow.cell hlt
      have hf := hrow.frozen k
      simp only [Nat.lt_irrefl, if_false] at hr
      have hrow' := (hrow.set k (.int .i64 (Z k))).congr (g := fun j => if j < k + 1 then .int .i64 (Z j) else .int .i64 0) (set_step Z k)
      have hbel' := hbel.setCell (p := ⟨w.heap.size, k, none⟩) (Nat.le_refl _) (.int .i64 (Z k))
      clear hcell
      have HR : Hid _ := hrow'
      clear hrow'
      clear hrow
      go_wp2
      go_roundw
      case rel => exact ⟨k + 1, by omega, by go_num, HR.out, hbel'⟩
      case measure => simp [intOf]; omega
    · have e : k = len := by omega
      subst e
      have hrow' : Hid _ := hrow.congr (g := fun j => .int .i64 (Z j)) (by intro j hj; simp [hj])
      clear hrow hcell
      go_wp2
      go_ret
      exact ⟨rfl, hrow'.out, hbel⟩

theorem bytes_any (a : Option Addr) (len cap : Nat) (w : World) (h : len ≤ maxLen) :
    Calls Try.prog 15 #[.slice a len cap] w fun e w' => (∃ b, e = .returned (.bool b)) ∧ w' = w := by
  unfold maxLen at h
  by_cases hl : len ≤ 1048576
  · go_enter Try.func15, Try.ntmps15
    go_wp2
    go_ret
    exact ⟨⟨_, rfl⟩, rfl⟩
  · go_enter Try.func15, Try.ntmps15
    go_wp2
    go_ret
    exact ⟨⟨_, rfl⟩, rfl⟩

end Go.Proofs.Qxb6602261a.Ev
