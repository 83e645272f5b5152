/- Slices of slices of strings: the size, the copy, the guard. -/
import Derived.Test.Qxb6602261aPartsPlain
import Derived.Test.Qxb6602261aModel
namespace Go.Proofs.Qxb6602261a.Nm
open Go.RowKit

/-- The outer slice's cells hold the inner slices; each inner slice leads to its strings. -/
structure PAt (w : World) (a : Option Addr) (n : Nat) (A : Nat → Option Addr) (K C : Nat → Nat) (P : Nat → List ByteArray) : Prop where
  cell : ∀ i, i < n → ∃ b o, a = some ⟨b, o, none⟩ ∧ w.cell? ⟨b, o + i, none⟩ = some (.slice (A i) (K i) (C i))
  strs : ∀ i, i < n → (P i).length = K i ∧ StrsAt w (A i) (K i) (get (P i)) ∧ K i ≤ maxLen ∧ (A i = none → K i = 0 ∧ C i = 0)

theorem PAt.below {w w' : World} {a : Option Addr} {n : Nat} {A : Nat → Option Addr} {K C : Nat → Nat} {P : Nat → List ByteArray} (h : PAt w a n A K C P) (hb : Below w.heap.size w w') : PAt w' a n A K C P := by
  refine ⟨fun i hi => ?_, fun i hi => ?_⟩
  · obtain ⟨b, o, ha, hc⟩ := h.cell i hi
    exact ⟨b, o, ha, (hb.cell (p := ⟨b, o + i, none⟩) (World.block_lt_of_cell? w _ hc)).trans hc⟩
  · obtain ⟨h1, h2, h3, h4⟩ := h.strs i hi
    exact ⟨h1, h2.below hb, h3, h4⟩
theorem PAt.drew {w w' : World} {a : Option Addr} {n : Nat} {A : Nat → Option Addr} {K C : Nat → Nat} {P : Nat → List ByteArray} (h : PAt w a n A K C P) (hd : Drew w w') : PAt w' a n A K C P := by
  obtain ⟨m, rfl⟩ := hd
  exact ⟨h.cell, h.strs⟩

/-! ### zzb1Size, with what it says of the length -/
def SizeIs2 (n : Nat) (z : Int) : Prop := 0 ≤ z ∧ z ≤ 2097152 ∧ (z ≤ 1048576 → n ≤ 65536 ∧ 16 * (n : Int) ≤ z)

set_option maxHeartbeats 1000000 in
theorem size2_any (a : Option Addr) (n cap : Nat) (S : Nat → ByteArray) (w : World) (hS : StrsAt w a n S) (hn : n ≤ maxLen) :
    Calls Try.prog 19 #[.slice a n cap] w fun e w' => ∃ z : Int, e = .returned (.int .i64 z) ∧ SizeIs2 n z ∧ w' = w := by
  unfold maxLen at hn
  by_cases hl : n ≤ 65536
  · go_enter Try.func19, Try.ntmps19
    go_wp2
    go_loop [3, 4] (fun t i => ∃ (k : Nat) (z : Int), k ≤ n ∧ i = .int .i64 k ∧ t = .int .i64 z ∧ 16 * (n : Int) ≤ z ∧ z ≤ 1048576) (fun _ i => n - (intOf i).toNat)
    case atStart => exact ⟨0, _, Nat.zero_le _, rfl, rfl, by omega, by omega⟩
    case round =>
      obtain ⟨k, z, hk, rfl, rfl, hz0, hz1⟩ := hrel
      by_cases hlt : k < n
      · obtain ⟨b, o, rfl, hc⟩ := hS k hlt
        clear hS
        generalize S k = s at hc
        by_cases h1 : s.size ≤ 1048576
        · by_cases h2 : z + s.size ≤ 1048576
          · go_wp2
            go_round
            case rel => exact ⟨k + 1, z + s.size, by omega, by go_num, by go_num, by omega, by omega⟩
            case measure => simp [intOf]; omega
          · go_wp2
            go_ret
            exact ⟨_, rfl, ⟨by omega, by omega, fun h => by omega⟩, rfl⟩
        · go_wp2
          go_ret
          exact ⟨_, rfl, ⟨by omega, by omega, fun h => by omega⟩, rfl⟩
      · go_wp2
        go_ret
        exact ⟨_, rfl, ⟨by omega, by omega, fun h => by omega⟩, rfl⟩
  · go_enter Try.func19, Try.ntmps19
    go_wp2
    go_ret
    exact ⟨_, rfl, ⟨by omega, by omega, by omega⟩, rfl⟩

/-! ### zzb1SizeParts -/
def PSizeIs (n : Nat) (K : Nat → Nat) (z : Int) : Prop := 0 ≤ z ∧ z ≤ 4194304 ∧ (z ≤ 1048576 → n ≤ 65536 ∧ 16 * (tot K n : Int) ≤ z)

set_option maxHeartbeats 1000000 in
theorem sizeParts_any (a : Option Addr) (n cap : Nat) (A : Nat → Option Addr) (K C : Nat → Nat) (P : Nat → List ByteArray) (w : World) (hP : PAt w a n A K C P) (hn : n ≤ maxLen) :
    Calls Try.prog 34 #[.slice a n cap] w fun e w' => ∃ z : Int, e = .returned (.int .i64 z) ∧ PSizeIs n K z ∧ w' = w := by
  unfold maxLen at hn
  by_cases hl : n ≤ 65536
  case neg =>
    go_enter Try.func34, Try.ntmps34
    go_wp2
    go_ret
    exact ⟨_, rfl, ⟨by omega, by omega, by omega⟩, rfl⟩
  by_cases hl2 : 24 * (n : Int) ≤ 1048576
  case neg =>
    go_enter Try.func34, Try.ntmps34
    go_wp2
    go_ret
    exact ⟨_, rfl, ⟨by omega, by omega, by omega⟩, rfl⟩
  go_enter Try.func34, Try.ntmps34
  go_wp2
  go_loopw [3, 4] (fun t i wr => ∃ (k : Nat) (z : Int), k ≤ n ∧ i = .int .i64 k ∧ t = .int .i64 z ∧ 0 ≤ z ∧ z ≤ 1048576 ∧ Hid (16 * (tot K k : Int) ≤ z) ∧ wr = w) (fun _ i _ => n - (intOf i).toNat)
  case atStart => exact ⟨0, _, Nat.zero_le _, rfl, rfl, by omega, by omega, by show 16 * ((0 : Nat) : Int) ≤ _; omega, rfl⟩
  case round =>
    obtain ⟨k, z, hk, rfl, rfl, hz0, hz1, HZ, rfl⟩ := hrel
    by_cases hlt : k < n
    · obtain ⟨b, o, rfl, hc⟩ := hP.cell k hlt
      have HS : Hid ((P k).length = K k ∧ StrsAt wr (A k) (K k) (get (P k)) ∧ K k ≤ maxLen ∧ (A k = none → K k = 0 ∧ C k = 0)) := hP.strs k hlt
      clear hP
      go_wp2_with fail
      refine (size2_any _ _ _ _ _ HS.out.2.1 HS.out.2.2.1).mono ?_
      rintro e wr ⟨y, rfl, hy, rfl⟩
      obtain ⟨y0, y1, y2⟩ := hy
      have HY : Hid (y ≤ 1048576 → K k ≤ 65536 ∧ 16 * (K k : Int) ≤ y) := y2
      clear y2
      by_cases h2 : z + y ≤ 1048576
      · go_wp2
        go_roundw
        case rel =>
          refine ⟨k + 1, z + y, by omega, by go_num, rfl, by omega, h2, ?_, by first | rfl | trivial⟩
          have h3 := HZ.out
          have h4 := (HY.out (by omega)).2
          show 16 * ((tot K k + K k : Nat) : Int) ≤ z + y
          omega
        case measure => simp [intOf]; omega
      · go_wp2
        go_ret
        exact ⟨_, rfl, ⟨by omega, by omega, fun h => by omega⟩, rfl⟩
    · have e : k = n := by omega
      subst e
      clear hP
      go_wp2
      go_ret
      exact ⟨_, rfl, ⟨by omega, by omega, fun h => ⟨hl, HZ.out⟩⟩, rfl⟩

/-! ### zzb1CloneParts -/
theorem info33 : (Try.prog.info? 33).map (fun i => (i.zero, i.size, i.bytes)) = some (some (.slice none 0 0), 1, 24) := by kernel_rfl

/-- Strings behind an address, beside a store into a row of slices. -/
theorem StrsAt.setRow {w : World} {a : Option Addr} {n : Nat} {S : Nat → ByteArray} (h : StrsAt w a n S) {b m : Nat} {f : Nat → Value} (hr : w.rowIs b 33 m f) (hf : ∀ i s, f i ≠ .string s) (k : Nat) (v : Value) : StrsAt (w.setCell ⟨b, k, none⟩ v) a n S := by
  intro i hi
  obtain ⟨b', o, ha, hc⟩ := h i hi
  refine ⟨b', o, ha, ?_⟩
  have hne : b' ≠ b := by
    intro e
    subst e
    obtain ⟨c, hb, hs, hcc⟩ := hr
    simp only [World.cell?, hb] at hc
    by_cases hlt : o + i < m
    · have := hcc (o + i) hlt
      simp [this] at hc
      exact hf _ _ hc
    · have : c[o + i]? = none := by rw [Array.getElem?_eq_none]; omega
      simp [this] at hc
  rw [← hc]
  exact World.cell?_of_block (Below.heap_setCell _ _ _ _ hne)

/-- What has been copied of the parts when k of n are done. -/
def Copied (w : World) (B n k : Nat) (A' : Nat → Option Addr) (K C' : Nat → Nat) (P : Nat → List ByteArray) : Prop :=
  w.rowIs B 33 n (fun j => if j < k then .slice (A' j) (K j) (C' j) else .slice none 0 0) ∧
    ∀ j, j < k → (P j).length = K j ∧ StrsAt w (A' j) (K j) (get (P j)) ∧ K j ≤ maxLen ∧ (A' j = none → K j = 0 ∧ C' j = 0)

theorem Copied.step {wr w1 : World} {B n k : Nat} {A' : Nat → Option Addr} {K C' : Nat → Nat} {P : Nat → List ByteArray} (h : Copied wr B n k A' K C' P) (hbel : Below wr.heap.size wr w1) (a1 : Option Addr) (c1 : Nat)
    (h1 : (P k).length = K k ∧ StrsAt w1 a1 (K k) (get (P k)) ∧ K k ≤ maxLen ∧ (a1 = none → K k = 0 ∧ c1 = 0)) :
    Copied (w1.setCell ⟨B, k, none⟩ (.slice a1 (K k) c1)) B n (k + 1) (fun j => if j = k then a1 else A' j) K (fun j => if j = k then c1 else C' j) P := by
  obtain ⟨hrow, hs⟩ := h
  have hrow1 : w1.rowIs B 33 n (fun j => if j < k then .slice (A' j) (K j) (C' j) else .slice none 0 0) := hrow.of_block (hbel.block B hrow.lt)
  have hf : ∀ i s, (fun j => if j < k then Value.slice (A' j) (K j) (C' j) else .slice none 0 0) i ≠ .string s := by
    intro i s
    show (if i < k then Value.slice (A' i) (K i) (C' i) else .slice none 0 0) ≠ _
    split <;> simp
  refine ⟨(hrow1.set k _).congr ?_, fun j hj => ?_⟩
  · intro j hj
    show (if j = k then Value.slice a1 (K k) c1 else if j < k then Value.slice (A' j) (K j) (C' j) else .slice none 0 0) = if j < k + 1 then .slice (if j = k then a1 else A' j) (K j) (if j = k then c1 else C' j) else .slice none 0 0
    by_cases e : j = k
    · subst e; simp
    · simp only [if_neg e, show (j < k + 1) ↔ j < k from by omega]
  · by_cases e : j = k
    · subst e
      simp only [if_true]
      exact ⟨h1.1, h1.2.1.setRow hrow1 hf _ _, h1.2.2⟩
    · simp only [if_neg e]
      obtain ⟨g1, g2, g3, g4⟩ := hs j (by omega)
      exact ⟨g1, (g2.below hbel).setRow hrow1 hf _ _, g3, g4⟩

set_option maxHeartbeats 2000000 in
theorem cloneParts_any (x : Addr) (n cap : Nat) (A : Nat → Option Addr) (K C : Nat → Nat) (P : Nat → List ByteArray) (w : World) (hP : PAt w (some x) n A K C P) (hn : n ≤ 65536) (hK : ∀ i, i < n → K i ≤ 65536) :
    Calls Try.prog 35 #[.slice (some x) n cap] w fun e w' => ∃ A' C', e = .returned (.slice (some ⟨w.heap.size, 0, none⟩) n n) ∧ PAt w' (some ⟨w.heap.size, 0, none⟩) n A' K C' P ∧ Below w.heap.size w w' := by
  have hnil : ∀ W, (binOp .eql 49 (.slice (some x) n cap) (.slice none 0 0)).run Try.prog W = .ok (.bool false) W :=
    fun W => Lib.run_eql_slice_nil W _ _ _ _ _ _ _ Try.underlying49
  have hmk := run_make_row' (P := Try.prog) 49 33 (.slice none 0 0) 24 Try.underlying49 info33 rfl .i64 .i64 n (by omega) (by omega)
  have HK : Hid (∀ i, i < n → K i ≤ 65536) := hK
  have HP : Hid (PAt w (some x) n A K C P) := hP
  clear hK hP
  go_enter Try.func35, Try.ntmps35
  go_wp2
  go_loopw [4] (fun i wr => ∃ k : Nat, k ≤ n ∧ i = .int .i64 k ∧ Hid (∃ A' C', Copied wr w.heap.size n k A' K C' P) ∧ Below w.heap.size w wr) (fun i _ => n - (intOf i).toNat)
  case atStart =>
    refine ⟨0, Nat.zero_le _, rfl, ⟨fun _ => none, fun _ => 0, ?_, fun j hj => by omega⟩, (Below.refl _ _).alloc (Nat.le_refl _) _⟩
    simpa using World.rowIs_made _ _ _ _
  case round =>
    obtain ⟨k, hk, rfl, HC, hbel⟩ := hrel
    clear hmk hnil
    by_cases hlt : k < n
    · obtain ⟨A', C', hcop⟩ := HC.out
      obtain ⟨b, o, ha, hc⟩ := (HP.out.below hbel).cell k hlt
      simp only [Option.some.injEq] at ha
      subst ha
      have HS : Hid ((P k).length = K k ∧ StrsAt wr (A k) (K k) (get (P k)) ∧ K k ≤ maxLen ∧ (A k = none → K k = 0 ∧ C k = 0)) := (HP.out.below hbel).strs k hlt
      have HCo : Hid (Copied wr w.heap.size n k A' K C' P) := hcop
      clear HC hcop
      go_wp2_with fail
      refine (clone_any _ _ _ _ _ HS.out.2.1 (HK.out k hlt) HS.out.2.2.2).mono ?_
      rintro e w1 ⟨a1, c1, rfl, hs1, hc1, hz1, hbel1⟩
      have hrow1 := HCo.out.1.of_block (hbel1.block _ HCo.out.1.lt)
      have r1 := hrow1.cell hlt
      have r2 := hrow1.frozen k
      simp only [Nat.lt_irrefl, if_false] at r1
      have HN : Hid (Copied (w1.setCell ⟨w.heap.size, k, none⟩ (.slice a1 (K k) c1)) w.heap.size n (k + 1) (fun j => if j = k then a1 else A' j) K (fun j => if j = k then c1 else C' j) P) :=
        Copied.step HCo.out hbel1 a1 c1 ⟨HS.out.1, hs1, HS.out.2.2.1, hz1⟩
      have HB : Hid (Below w.heap.size w (w1.setCell ⟨w.heap.size, k, none⟩ (.slice a1 (K k) c1))) := (hbel.trans (hbel1.mono hbel.size)).setCell (p := ⟨w.heap.size, k, none⟩) (Nat.le_refl _) _
      clear hs1 hc1 hz1 hbel1 hrow1 hc
      go_wp2
      go_roundw
      case rel => exact ⟨k + 1, by omega, by go_num, ⟨_, _, HN.out⟩, HB.out⟩
      case measure => simp [intOf]; omega
    · have e : k = n := by omega
      subst e
      go_wp2
      go_ret
      obtain ⟨A', C', hrow, hs⟩ := HC.out
      refine ⟨A', C', rfl, ⟨fun i hi => ⟨_, 0, rfl, ?_⟩, hs⟩, hbel⟩
      rw [Nat.zero_add, hrow.cell hi]
      simp [hi]

end Go.Proofs.Qxb6602261a.Nm
