/- From the row's reading of a tree and of entries to what the walks are told. -/
import Derived.Test.Qxb6601217aRows
import Derived.Test.Qxb6601217aLaw
import Derived.ProofKit
import Derived.OpenShut
import Derived.ShutString
import Derived.Deep.Slices
import Derived.ChangeArms
namespace Go.Proofs.Qxb6601217a.Tr
open Go.ChangeShapes Go.WideShapes Go.ChangeAt Go.RowKit Go.Deep

theorem cells24 : Try.prog.cellsOf 24 = 3 := by kernel_rfl
theorem cells31 : Try.prog.cellsOf 31 = 2 := by kernel_rfl
theorem cells9 : Try.prog.cellsOf 9 = 1 := by kernel_rfl
theorem cells3 : Try.prog.cellsOf 3 = 1 := by kernel_rfl
theorem cells22 : Try.prog.cellsOf 22 = 1 := by kernel_rfl

theorem list_choose {α : Type} : ∀ (n : Nat) (p : Nat → α → Prop), (∀ i, i < n → ∃ x, p i x) → ∃ L : List α, ∃ hl : L.length = n, ∀ i (hi : i < n), p i (L[i]'(by omega))
  | 0, _, _ => ⟨[], rfl, fun i hi => by omega⟩
  | n + 1, p, h => by
    obtain ⟨L, hl, hL⟩ := list_choose n p fun i hi => h i (by omega)
    obtain ⟨x, hx⟩ := h n (by omega)
    refine ⟨L ++ [x], by simp [hl], fun i hi => ?_⟩
    by_cases e : i < n
    · rw [List.getElem_append_left (by omega)]
      exact hL i e
    · have e' : i = n := by omega
      subst e'
      rw [List.getElem_append_right (by omega)]
      simpa using hx

theorem open_tree {H : Type} {enc : TypeId × Value → H} {W : World} : ∀ (k f : Nat) (cs : List Value) (x : DataW H × List MemPlace), f ≤ 2 * k → DataW.trod enc Try.prog W 0 (fun _ => true) true f 24 cs = some x →
    ∃ (t : T k) (a b c : Value), cs = [a, b, c] ∧ Fits (fun _ => True) W k t a b c
  | 0, f, cs, x, hf, h => by
    obtain rfl : f = 0 := by omega
    simp [DataW.trod] at h
  | k + 1, f, cs, x, hf, h => by
    obtain ⟨xs, m, rfl, _, hl, hlen, hx⟩ := DataW.trod_struct Try.underlying24 h
    rw [cells24] at hl
    obtain ⟨a, b, c, rfl⟩ : ∃ a b c, cs = [a, b, c] := by
      match cs, hl with
      | [a, b, c], _ => exact ⟨a, b, c, rfl⟩
    have h0 := hx 0 _ rfl
    have h1 := hx 1 _ rfl
    have h2 := hx 2 _ rfl
    replace h0 : DataW.trod enc Try.prog W 0 (fun _ => true) true m 9 (([a, b, c].drop 0).take (Try.prog.cellsOf 9)) = xs[0]? := h0
    replace h1 : DataW.trod enc Try.prog W 0 (fun _ => true) true m 3 (([a, b, c].drop 1).take (Try.prog.cellsOf 3)) = xs[1]? := h1
    replace h2 : DataW.trod enc Try.prog W 0 (fun _ => true) true m 22 (([a, b, c].drop 2).take (Try.prog.cellsOf 22)) = xs[2]? := h2
    rw [cells9] at h0
    rw [cells3] at h1
    rw [cells22] at h2
    match xs, hlen with
    | [y0, y1, y2], _ =>
      obtain ⟨s, hs, _, hsz⟩ := DataW.trod_string Try.underlying9 h0
      obtain ⟨v, hv, _, _⟩ := DataW.trod_int Try.underlying3 h1
      simp at hs hv
      subst hs
      subst hv
      rcases DataW.trod_slice Try.underlying22 h2 with ⟨hc, _⟩ | ⟨ad, len, cap, elems, rest, m', rfl, hc, _, _, hle, hcap, hel, helm, _, _⟩
      · simp at hc
        subst hc
        exact ⟨mk s v [], _, _, _, rfl, Fits.shut' hsz rfl (fun _ => ⟨rfl, rfl⟩) (Nat.zero_le _) (kids_nil rfl)⟩
      · simp at hc
        subst hc
        have hk : ∀ i, i < len → ∃ t : T k, ∃ a b c, W.cell? (ad.add (i * 3)) = some a ∧ W.cell? ((ad.add (i * 3)).add 1) = some b ∧ W.cell? ((ad.add (i * 3)).add 2) = some c ∧ Fits (fun _ => True) W k t a b c := by
          intro i hi
          have e := helm i hi
          rw [cells24, List.getElem?_eq_getElem (by omega)] at e
          obtain ⟨cs', hc', ht'⟩ := Option.bind_eq_some_iff.1 e
          obtain ⟨t, a, b, c, rfl, hft⟩ := open_tree k m' cs' _ (by omega) ht'
          obtain ⟨_, _, hcell⟩ := World.cells?_some hc'
          refine ⟨t, a, b, c, ?_, hcell 1 (by omega), hcell 2 (by omega), hft⟩
          have := hcell 0 (by omega)
          rwa [show (ad.add (i * 3)).add 0 = ad.add (i * 3) by simp [Addr.add]] at this
        obtain ⟨L, hL, hLp⟩ := list_choose len _ hk
        refine ⟨mk s v L, _, _, _, rfl, Fits.shut' hsz hL.symm (fun h => by cases h) (Nat.le_trans hle hcap) fun i hi => ?_⟩
        obtain ⟨a, b, c, g0, g1, g2, hft⟩ := hLp i (by omega)
        obtain ⟨bk, of, spot⟩ := ad
        have hspot : spot = none := by
          obtain ⟨_, _, _, g, _⟩ := hLp 0 (by omega)
          simpa [Addr.add] using World.cell?_spot g
        subst hspot
        refine ⟨bk, of, rfl, trivial, a, b, c, ?_, ?_, ?_, hft⟩
        · rwa [Go.WideShapes.add_plain] at g0
        · rwa [Go.WideShapes.add_plain, Go.WideShapes.add_plain] at g1
        · rwa [Go.WideShapes.add_plain, Go.WideShapes.add_plain] at g2
theorem open_ent {H : Type} {enc : TypeId × Value → H} {W : World} {f : Nat} {cs : List Value} {x : DataW H × List MemPlace} (h : DataW.trod enc Try.prog W 0 (fun _ => true) true f 31 cs = some x) :
    ∃ q : ByteArray × Int, cs = [.string q.1, .int .i64 q.2] ∧ q.1.size ≤ maxLen := by
  obtain ⟨xs, m, rfl, _, hl, hlen, hx⟩ := DataW.trod_struct Try.underlying31 h
  rw [cells31] at hl
  obtain ⟨a, b, rfl⟩ : ∃ a b, cs = [a, b] := by
    match cs, hl with
    | [a, b], _ => exact ⟨a, b, rfl⟩
  have h0 : DataW.trod enc Try.prog W 0 (fun _ => true) true m 9 (([a, b].drop 0).take (Try.prog.cellsOf 9)) = xs[0]? := hx 0 _ rfl
  have h1 : DataW.trod enc Try.prog W 0 (fun _ => true) true m 3 (([a, b].drop 1).take (Try.prog.cellsOf 3)) = xs[1]? := hx 1 _ rfl
  rw [cells9] at h0
  rw [cells3] at h1
  match xs, hlen with
  | [y0, y1], _ =>
    obtain ⟨s, hs, _, hsz⟩ := DataW.trod_string Try.underlying9 h0
    obtain ⟨v, hv, _, _⟩ := DataW.trod_int Try.underlying3 h1
    simp at hs hv
    subst hs
    subst hv
    exact ⟨(s, v), rfl, hsz⟩
theorem own : ownKnob Try.prog.godebug = none := by kernel_rfl
theorem laidOut : laidOutB Try.prog = true := by kernel_rfl
theorem open_ents {H : Type} {enc : TypeId × Value → H} {W : World} {a : Option Addr} {n c : Nat} {d : DataW H} {p : List MemPlace} (h : DataW.Trod enc Try.prog W 0 (fun _ => true) true 25 (.slice a n c) d p) :
    ∃ F, n ≤ maxLen ∧ (a = none → n = 0 ∧ c = 0) ∧ EntsAt W a n F ∧ ∀ i, i < n → (F i).1.size ≤ maxLen := by
  obtain ⟨fuel, hf⟩ := h
  rcases open_slice Try.underlying25 hf with ⟨hcs, _⟩ | ⟨ad, l, cap, m, k, D, Pl, hcs, _, hl, hm, hmm, _, hx⟩
  · simp [Value.cells] at hcs
    obtain ⟨rfl, rfl, rfl⟩ := hcs
    exact ⟨fun _ => (ByteArray.empty, 0), Nat.zero_le _, fun _ => ⟨rfl, rfl⟩, fun i hi => by omega, fun i hi => by omega⟩
  · simp [Value.cells] at hcs
    obtain ⟨rfl, rfl, rfl⟩ := hcs
    have hmc : n ≤ m := by rw [hmm]; simpa using hl
    have hk : ∀ i, i < n → ∃ q : ByteArray × Int, W.cell? (ad.add (i * 2)) = some (.string q.1) ∧ W.cell? ((ad.add (i * 2)).add 1) = some (.int .i64 q.2) ∧ q.1.size ≤ maxLen := by
      intro i hi
      obtain ⟨cs', h1, h2⟩ := hx i (by omega)
      rw [cells31] at h1
      obtain ⟨q, rfl, hq⟩ := open_ent h2
      obtain ⟨_, _, hcell⟩ := World.cells?_some h1
      refine ⟨q, ?_, hcell 1 (by omega), hq⟩
      have := hcell 0 (by omega)
      rwa [show (ad.add (i * 2)).add 0 = ad.add (i * 2) by simp [Addr.add]] at this
    obtain ⟨F, hF⟩ := choose_lt hk
    refine ⟨F, Nat.le_trans hl hm, (fun e => by cases e), fun i hi => ?_, fun i hi => (hF i hi).2.2⟩
    obtain ⟨bk, of, spot⟩ := ad
    have hspot : spot = none := by simpa [Addr.add] using World.cell?_spot (hF 0 (by omega)).1
    subst hspot
    obtain ⟨g0, g1, _⟩ := hF i hi
    refine ⟨bk, of, rfl, ?_, ?_⟩
    · rwa [Go.WideShapes.add_plain] at g0
    · rwa [Go.WideShapes.add_plain, Go.WideShapes.add_plain] at g1
end Go.Proofs.Qxb6601217a.Tr
