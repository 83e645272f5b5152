/- From the row's reading of a slice of slices of strings to what the walks are told. -/
import Derived.Test.Qxb6602261aOpens
import Derived.Test.Qxb6602261aParts
import Derived.Deep.Slices
namespace Go.Proofs.Qxb6602261a.Nm
open Go.ChangeShapes Go.WideShapes Go.ChangeAt Go.RowKit Go.Deep

theorem inner_strs {H : Type} {enc : TypeId × Value → H} {W : World} {fuel : Nat} {v : Value} {x : DataW H × List MemPlace}
    (h : DataW.trod enc Try.prog W 0 (fun _ => true) true fuel 33 [v] = some x) : ∃ y : Option Addr × Nat × Nat × List ByteArray, v = .slice y.1 y.2.1 y.2.2.1 ∧ y.2.2.2.length = y.2.1 ∧ StrsAt W y.1 y.2.1 (get y.2.2.2) ∧ y.2.1 ≤ maxLen ∧ (y.1 = none → y.2.1 = 0 ∧ y.2.2.1 = 0) := by
  rcases open_strings Try.underlying33 Try.underlying9 (by kernel_rfl) h with ⟨hcs, _⟩ | ⟨x, l, c, ss, hcs, _, hl, hm, hz, _, hcell, _⟩
  · exact ⟨(none, 0, 0, []), by simpa using hcs, rfl, StrsAt.zero _ _ _, Nat.zero_le _, fun _ => ⟨rfl, rfl⟩⟩
  · have hz' : ss.length = c := by simpa using hz
    have hlen : (ss.take l).length = l := by simp; omega
    refine ⟨(some x, l, c, ss.take l), by simpa using hcs, hlen, strs_at fun i hi => ?_, Nat.le_trans hl hm, fun e => by cases e⟩
    have hi' : i < l := hi
    rw [hcell i (by omega)]
    simp [get, hi']

theorem open_parts {H : Type} {enc : TypeId × Value → H} {W : World} {a : Option Addr} {n cap : Nat} {d : DataW H} {p : List MemPlace}
    (h : DataW.Trod enc Try.prog W 0 (fun _ => true) true 49 (.slice a n cap) d p) : ∃ A K C P, PAt W a n A K C P ∧ n ≤ maxLen := by
  obtain ⟨fuel, hf⟩ := h
  rcases open_slice1 Try.underlying49 (by kernel_rfl) hf with ⟨hcs, _⟩ | ⟨x, l, c, m, k, V, D, Pl, hcs, _, hl, hm, hmm, _, hx⟩
  · simp [Value.cells] at hcs
    obtain ⟨rfl, rfl, rfl⟩ := hcs
    exact ⟨fun _ => none, fun _ => 0, fun _ => 0, fun _ => [], ⟨fun i hi => by omega, fun i hi => by omega⟩, Nat.zero_le _⟩
  · simp [Value.cells] at hcs
    obtain ⟨rfl, rfl, rfl⟩ := hcs
    have hmc : n ≤ m := by rw [hmm]; simpa using hl
    obtain ⟨Y, hY⟩ := choose_lt (α := Option Addr × Nat × Nat × List ByteArray) (p := fun i y => V i = .slice y.1 y.2.1 y.2.2.1 ∧ y.2.2.2.length = y.2.1 ∧ StrsAt W y.1 y.2.1 (get y.2.2.2) ∧ y.2.1 ≤ maxLen ∧ (y.1 = none → y.2.1 = 0 ∧ y.2.2.1 = 0))
      (fun i (hi : i < n) => inner_strs (hx i (by omega)).2)
    refine ⟨fun i => (Y i).1, fun i => (Y i).2.1, fun i => (Y i).2.2.1, fun i => (Y i).2.2.2, ⟨fun i hi => ?_, fun i hi => (hY i hi).2⟩, Nat.le_trans hl hm⟩
    obtain ⟨b, o, spot⟩ := x
    have h0 := (hx 0 (by omega)).1
    have hspot : spot = none := by simpa [Addr.add] using World.cell?_spot h0
    subst hspot
    refine ⟨b, o, rfl, ?_⟩
    rw [← (hY i hi).1, ← Go.WideShapes.add_plain]
    exact (hx i (by omega)).1

end Go.Proofs.Qxb6602261a.Nm
