/- A gathering in memory: its three cells, its list of names; what a call of add keeps; slices.Clone. -/
import Derived.Test.Qxb6602261aApp
namespace Go.Proofs.Qxb6602261a.Nm
open Go.RowKit

/-- All blocks that were there are as they were, but for block gb and the row r. -/
structure Keep (w w' : World) (gb : Nat) (r : Option Nat) : Prop where
  os : w'.os = w.os
  tape : w'.tape = w.tape
  output : w'.output = w.output
  size : w.heap.size ≤ w'.heap.size
  block : ∀ k, k < w.heap.size → k ≠ gb → some k ≠ r → w'.heap[k]? = w.heap[k]?

theorem Keep.refl (w : World) (gb : Nat) (r : Option Nat) : Keep w w gb r := ⟨rfl, rfl, rfl, Nat.le_refl _, fun _ _ _ _ => rfl⟩
theorem Keep.trans {a b c : World} {gb : Nat} {r : Option Nat} (h : Keep a b gb r) (k : Keep b c gb r) : Keep a c gb r :=
  ⟨k.os.trans h.os, k.tape.trans h.tape, k.output.trans h.output, Nat.le_trans h.size k.size, fun i hi h1 h2 => (k.block i (Nat.lt_of_lt_of_le hi h.size) h1 h2).trans (h.block i hi h1 h2)⟩
theorem Keep.of_below {w w' : World} (h : Below w.heap.size w w') (gb : Nat) (r : Option Nat) : Keep w w' gb r := ⟨h.os, h.tape, h.output, h.size, fun k hk _ _ => h.block k hk⟩
theorem Keep.of_grown {w w' : World} {r : Option Nat} (h : w.grownBy w' r) (gb : Nat) : Keep w w' gb r := ⟨h.os, h.tape, h.output, h.size, fun k hk _ h2 => h.block k hk h2⟩
theorem Keep.of_set (w : World) (gb o : Nat) (v : Value) (r : Option Nat) : Keep w (w.setCell ⟨gb, o, none⟩ v) gb r :=
  ⟨rfl, rfl, rfl, by simp [World.setCell], fun k _ h1 _ => Below.heap_setCell _ _ _ _ h1⟩
theorem Keep.of_alloc (w : World) (o : Obj) (gb : Nat) (r : Option Nat) : Keep w (w.alloc o) gb r := .of_below ((Below.refl _ _).alloc (Nat.le_refl _) o) gb r
theorem Keep.of_drewN (w : World) (n gb : Nat) (r : Option Nat) : Keep w (w.drewN n) gb r := .of_below (below_drewN (Below.refl _ _) n) gb r
theorem Keep.below {B : Nat} {w0 w w' : World} {gb : Nat} {r : Option Nat} (hb : Below B w0 w) (hB : B ≤ w0.heap.size) (h : Keep w w' gb r) (h1 : B ≤ gb) (h2 : ∀ k, r = some k → B ≤ k) : Below B w0 w' := by
  have hs := hb.size
  exact hb.trans ⟨h.os, h.tape, h.output, h.size, fun k hk => h.block k (by omega) (by omega) (fun e => by have := h2 k e.symm; omega)⟩

/-- Block gb holds a gathering's three cells. -/
def GB (w : World) (gb : Nat) (x0 x1 x2 : Value) : Prop := w.heap[gb]? = some (.cells #[x0, x1, x2] 61 (0, 0))

theorem GB.c0 {w : World} {gb : Nat} {x0 x1 x2 : Value} (h : GB w gb x0 x1 x2) : w.cell? ⟨gb, 0, none⟩ = some x0 := by unfold GB at h; simp [World.cell?, h]
theorem GB.c1 {w : World} {gb : Nat} {x0 x1 x2 : Value} (h : GB w gb x0 x1 x2) : w.cell? ⟨gb, 1, none⟩ = some x1 := by unfold GB at h; simp [World.cell?, h]
theorem GB.c2 {w : World} {gb : Nat} {x0 x1 x2 : Value} (h : GB w gb x0 x1 x2) : w.cell? ⟨gb, 2, none⟩ = some x2 := by unfold GB at h; simp [World.cell?, h]
theorem GB.fr {w : World} {gb : Nat} {x0 x1 x2 : Value} (h : GB w gb x0 x1 x2) (o : Nat) : w.frozen? ⟨gb, o, none⟩ = false := by unfold GB at h; simp [World.frozen?, h]
theorem GB.lt {w : World} {gb : Nat} {x0 x1 x2 : Value} (h : GB w gb x0 x1 x2) : gb < w.heap.size := (Array.getElem?_eq_some_iff.1 h).1
theorem GB.set0 {w : World} {gb : Nat} {x0 x1 x2 : Value} (h : GB w gb x0 x1 x2) (y : Value) : GB (w.setCell ⟨gb, 0, none⟩ y) gb y x1 x2 := by
  unfold GB at *; simp [World.setCell, Array.getElem?_modify, h]
theorem GB.set1 {w : World} {gb : Nat} {x0 x1 x2 : Value} (h : GB w gb x0 x1 x2) (y : Value) : GB (w.setCell ⟨gb, 1, none⟩ y) gb x0 y x2 := by
  unfold GB at *; simp [World.setCell, Array.getElem?_modify, h]
theorem GB.set2 {w : World} {gb : Nat} {x0 x1 x2 : Value} (h : GB w gb x0 x1 x2) (y : Value) : GB (w.setCell ⟨gb, 2, none⟩ y) gb x0 x1 y := by
  unfold GB at *; simp [World.setCell, Array.getElem?_modify, h]
theorem GB.of_block {w w' : World} {gb : Nat} {x0 x1 x2 : Value} (h : GB w gb x0 x1 x2) (e : w'.heap[gb]? = w.heap[gb]?) : GB w' gb x0 x1 x2 := e.trans h
theorem GB.below {w w' : World} {gb : Nat} {x0 x1 x2 : Value} (h : GB w gb x0 x1 x2) (hb : Below w.heap.size w w') : GB w' gb x0 x1 x2 := h.of_block (hb.block gb h.lt)

/-- A row of strings is no gathering's block. -/
theorem Own.ne {w : World} {B gb : Nat} {v x0 x1 x2 : Value} {F : List ByteArray} (h : Own w B v F) (g : GB w gb x0 x1 x2) : v.ownBlock ≠ some gb := by
  intro e
  rcases h.2 with ⟨rfl, _⟩ | ⟨k, cap, cur, rfl, _, hh, _⟩
  · simp [Value.ownBlock] at e
  · simp [Value.ownBlock] at e
    subst e
    unfold GB at g
    rw [hh] at g
    simp at g
theorem Own.setG {w : World} {B gb o : Nat} {v x0 x1 x2 y : Value} {F : List ByteArray} (h : Own w B v F) (g : GB w gb x0 x1 x2) : Own (w.setCell ⟨gb, o, none⟩ y) B v F := by
  have hne := h.ne g
  refine ⟨h.1, ?_⟩
  rcases h.2 with h2 | ⟨k, cap, cur, rfl, hk, hh, r⟩
  · exact .inl h2
  · refine .inr ⟨k, cap, cur, rfl, hk, ?_, r⟩
    rw [Below.heap_setCell _ _ _ _ (by simpa [Value.ownBlock] using hne)]
    exact hh
theorem GB.grown {w w' : World} {B gb : Nat} {v x0 x1 x2 : Value} {F : List ByteArray} (g : GB w gb x0 x1 x2) (h : Own w B v F) (hg : w.grownBy w' v.ownBlock) : GB w' gb x0 x1 x2 :=
  g.of_block (hg.block gb g.lt (fun e => h.ne g e.symm))

/-- Strings behind an address that is neither the gathering's block nor the row r. -/
theorem StrsAt.keep {w w' : World} {gb : Nat} {r : Option Nat} {a : Option Addr} {n : Nat} {S : Nat → ByteArray} {x0 x1 x2 : Value} (h : StrsAt w a n S) (g : GB w gb x0 x1 x2) (hx : ∀ s, x0 ≠ .string s ∧ x1 ≠ .string s ∧ x2 ≠ .string s)
    (k : Keep w w' gb r) (hr : ∀ x, a = some x → some x.block ≠ r) : StrsAt w' a n S := by
  intro i hi
  obtain ⟨b, o, ha, hc⟩ := h i hi
  refine ⟨b, o, ha, ?_⟩
  have hne : b ≠ gb := by
    intro e
    subst e
    unfold GB at g
    have hc' := hc
    simp only [World.cell?, g] at hc'
    generalize o + i = q at hc'
    match q, hc' with
    | 0, hc' => simp at hc'; exact (hx _).1 hc'
    | 1, hc' => simp at hc'; exact (hx _).2.1 hc'
    | 2, hc' => simp at hc'; exact (hx _).2.2 hc'
    | q + 3, hc' => simp at hc'
  rw [← hc]
  exact World.cell?_of_block (k.block b (World.block_lt_of_cell? w _ hc) hne (hr _ ha))

theorem Own.keep {w w' : World} {B gb : Nat} {r : Option Nat} {v : Value} {F : List ByteArray} {x0 x1 x2 : Value} (h : Own w B v F) (g : GB w gb x0 x1 x2) (k : Keep w w' gb r) (hr : v.ownBlock = none ∨ v.ownBlock ≠ r) : Own w' B v F := by
  have hne := h.ne g
  refine ⟨h.1, ?_⟩
  rcases h.2 with h2 | ⟨q, cap, cur, rfl, hk, hh, s⟩
  · exact .inl h2
  · refine .inr ⟨q, cap, cur, rfl, hk, ?_, s⟩
    rw [k.block q (Array.getElem?_eq_some_iff.1 hh).1 (by simpa [Value.ownBlock] using hne) (by simpa [Value.ownBlock] using hr)]
    exact hh

/-! ### slices.Clone -/
theorem empty_made (w : World) : Own (w.alloc (.cells #[] 9)) w.heap.size (.slice (some ⟨w.heap.size, 0, none⟩) 0 0) [] :=
  World.ownsRow_made w #[] 0 (Nat.le_refl _) (Nat.zero_le _) rfl

set_option maxHeartbeats 1000000 in
theorem sclone_any (a : Option Addr) (n cap : Nat) (L : List ByteArray) (w : World) (hL : L.length = n) (hS : StrsAt w a n (get L)) (hn : n ≤ 65536) (hz : a = none → n = 0 ∧ cap = 0) :
    Calls Try.prog 46 #[.slice a n cap] w fun e w' => ∃ v, e = .returned v ∧ Own w' w.heap.size v L ∧ (v = .slice none 0 0 ↔ a = none) ∧ Below w.heap.size w w' := by
  cases a with
  | none =>
    obtain ⟨rfl, rfl⟩ := hz rfl
    have hL0 : L = [] := List.eq_nil_of_length_eq_zero hL
    subst hL0
    clear hS hL hz
    have hnil : ∀ W, (binOp .eql 33 (.slice none 0 0) (.slice none 0 0)).run Try.prog W = .ok (.bool true) W :=
      fun W => Lib.run_eql_slice_nil W _ _ _ _ _ _ _ Try.underlying33
    go_enter Try.func46, Try.ntmps46
    go_wp2
    go_ret
    exact ⟨_, rfl, Own.nil _ _, by simp, Below.refl _ _⟩
  | some x =>
    have HH : Hid (L.length = n ∧ StrsAt w (some x) n (get L)) := ⟨hL, hS⟩
    clear hS hL hz
    have hnil : ∀ W, (binOp .eql 33 (.slice (some x) n cap) (.slice none 0 0)).run Try.prog W = .ok (.bool false) W :=
      fun W => Lib.run_eql_slice_nil W _ _ _ _ _ _ _ Try.underlying33
    go_enter Try.func46, Try.ntmps46
    go_wp2_with (at_builtin; refine wpList_app rfl (.tmp 5) (.tmp 6) rfl w.heap.size (.slice (some ⟨w.heap.size, 0, none⟩) 0 0) [] rfl (empty_made w) (some x) n cap L rfl HH.out.1 (HH.out.2.below ((Below.refl _ _).alloc (Nat.le_refl _) _)) (fun e => by cases e) (by simp; omega) (by simp) ?_; intro v1 w1 hown1 hgrow1 hnil1 hat1)
    have HO : Hid (Own w1 w.heap.size v1 L ∧ (v1 = .slice none 0 0 ↔ some x = none) ∧ Below w.heap.size w w1) :=
      ⟨by simpa using hown1, by simpa using hnil1, ((Below.refl _ _).alloc (Nat.le_refl _) _).grown hgrow1 (by simp) (fun k hk => by simp [Value.ownBlock] at hk; omega)⟩
    clear hown1 hgrow1 hnil1 hat1
    go_wp2
    go_ret
    exact ⟨_, rfl, HO.out⟩

end Go.Proofs.Qxb6602261a.Nm
