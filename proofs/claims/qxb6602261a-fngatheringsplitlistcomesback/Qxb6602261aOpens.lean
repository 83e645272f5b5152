/- From the row's reading of a slice of strings to what the walks are told. -/
import Derived.Test.Qxb6602261aRows
import Derived.Test.Qxb6602261aStrs
import Derived.ProofKit
import Derived.OpenShut
import Derived.ShutString
import Derived.ChangeOld
import Derived.Below
import Derived.SliceStrings
namespace Go.Proofs.Qxb6602261a.Nm
open Go.ChangeShapes Go.WideShapes Go.ChangeAt Go.RowKit

theorem own : ownKnob Try.prog.godebug = none := by kernel_rfl
theorem laidOut : laidOutB Try.prog = true := by kernel_rfl

/-- WHAT THE WALK IS TOLD OF A SLICE OF STRINGS THAT CAME IN. -/
def Came (w : World) (a : Option Addr) (n cap : Nat) (L : List ByteArray) : Prop :=
  L.length = n ∧ StrsAt w a n (get L) ∧ n ≤ maxLen ∧ (a = none → n = 0 ∧ cap = 0)

theorem strs_at {w : World} {x : Addr} {n : Nat} {L : List ByteArray} (h : ∀ i, i < n → w.cell? (x.add i) = some (.string (get L i))) : StrsAt w (some x) n (get L) := by
  intro i hi
  obtain ⟨b, o, spot⟩ := x
  have hspot : spot = none := by simpa [Addr.add] using World.cell?_spot (h 0 (by omega))
  subst hspot
  exact ⟨b, o, rfl, by rw [← Go.WideShapes.add_plain]; exact h i hi⟩

theorem open_strs33 {H : Type} {enc : TypeId × Value → H} {W : World} {a : Option Addr} {n cap : Nat} {d : DataW H} {p : List MemPlace}
    (h : DataW.Trod enc Try.prog W 0 (fun _ => true) true 33 (.slice a n cap) d p) : ∃ L, Came W a n cap L := by
  obtain ⟨fuel, hf⟩ := h
  rcases open_strings Try.underlying33 Try.underlying9 (by kernel_rfl) hf with ⟨hcs, _⟩ | ⟨x, l, c, ss, hcs, _, hl, hm, hz, _, hcell, _⟩
  · simp [Value.cells] at hcs
    obtain ⟨rfl, rfl, rfl⟩ := hcs
    exact ⟨[], rfl, StrsAt.zero _ _ _, Nat.zero_le _, fun _ => ⟨rfl, rfl⟩⟩
  · simp [Value.cells] at hcs
    obtain ⟨rfl, rfl, rfl⟩ := hcs
    have hz' : ss.length = cap := by simpa using hz
    have hlen : (ss.take n).length = n := by simp; omega
    refine ⟨ss.take n, hlen, strs_at fun i hi => ?_, Nat.le_trans hl hm, fun e => by cases e⟩
    rw [hcell i (by omega)]
    simp [get, hi]

end Go.Proofs.Qxb6602261a.Nm
