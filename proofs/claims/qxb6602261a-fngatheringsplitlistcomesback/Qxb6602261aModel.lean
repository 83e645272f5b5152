/- The walk of FnNamesApartAgainstModel. -/
import Derived.Test.Qxb6602261aApart
import Derived.Test.Qxb6602261aGuards
namespace Go.Proofs.Qxb6602261a.Nm
open Go.RowKit

/-- zzb1Clone, in one form for nil and any other. -/
theorem clone_any (a : Option Addr) (n cap : Nat) (S : Nat → ByteArray) (w : World) (hS : StrsAt w a n S) (hn : n ≤ 65536) (hz : a = none → n = 0 ∧ cap = 0) :
    Calls Try.prog 21 #[.slice a n cap] w fun e w' => ∃ a1 c1, e = .returned (.slice a1 n c1) ∧ StrsAt w' a1 n S ∧ n ≤ c1 ∧ (a1 = none → n = 0 ∧ c1 = 0) ∧ Below w.heap.size w w' := by
  cases a with
  | none =>
    obtain ⟨rfl, rfl⟩ := hz rfl
    refine (clone_nil w).mono ?_
    rintro e w' ⟨rfl, rfl⟩
    exact ⟨none, 0, rfl, StrsAt.zero _ _ _, Nat.le_refl _, fun _ => ⟨rfl, rfl⟩, Below.refl _ _⟩
  | some x =>
    refine (clone_some x n cap S w hS hn).mono ?_
    rintro e w' ⟨rfl, hrow, hbel⟩
    exact ⟨_, n, rfl, fun i hi => ⟨_, 0, rfl, by rw [Nat.zero_add]; exact hrow.cell hi⟩, Nat.le_refl _, (fun h => by cases h), hbel⟩

/-- What is told of one of the two answers. -/
structure Ans (w : World) (v : Value) (F : List ByteArray) (z : Bool) (a : Option Addr) (c : Nat) : Prop where
  hv : v = .slice a F.length c
  hs : StrsAt w a F.length (get F)
  hz : a.isNone = z
  hl : ((F.length : Int) == 0) = z
  hc : F.length ≤ c
  hn : a = none → F.length = 0 ∧ c = 0

theorem ans_of {w : World} {B : Nat} {v : Value} {F : List ByteArray} (h : Own w B v F) (hz : F = [] → v = .slice none 0 0) : ∃ z a c, Ans w v F z a c := by
  obtain ⟨a, c, hv, hs, hn, hc, _⟩ := h.at
  have hn' : a = none → F.length = 0 ∧ c = 0 := fun e => ⟨by rw [(hn e).1]; rfl, (hn e).2⟩
  by_cases e : F = []
  · have e1 := hz e
    rw [hv] at e1
    refine ⟨true, a, c, hv, hs, ?_, ?_, hc, hn'⟩
    · simp only [Value.slice.injEq] at e1
      rw [e1.1]; rfl
    · rw [e]; rfl
  · refine ⟨false, a, c, hv, hs, ?_, ?_, hc, hn'⟩
    · cases a with
      | none => exact absurd (hn rfl).1 e
      | some x => rfl
    · have : F.length ≠ 0 := fun k => e (List.eq_nil_of_length_eq_zero k)
      simp [e]

/-- ZZNamesApart. -/
theorem zz_any (a a' : Option Addr) (n cap n' cap' : Nat) (W I : List ByteArray) (w : World) (hW : W.length = n) (hI : I.length = n') (hAW : Asc W) (hAI : Asc I) (hS : StrsAt w a n (get W)) (hS' : StrsAt w a' n' (get I))
    (hn : n ≤ 65536) (hn' : n' ≤ 65536) (hnc : n ≤ cap) (hnc' : n' ≤ cap') (hz : a = none → n = 0 ∧ cap = 0) (hz' : a' = none → n' = 0 ∧ cap' = 0) :
    Calls Try.prog 22 #[.slice a n cap, .slice a' n' cap'] w fun e w' => ∃ v v', e = .returned (.tuple #[v, v']) ∧ ApPost W I w w' v v' := by
  have HC : Hid _ := apart_any a a' n cap n' cap' W I w hW hI hAW hAI hS hS' hn hn' hnc hnc' hz hz'
  clear hS hS' hW hI hz hz'
  go_enter Try.func22, Try.ntmps22
  go_wp2_with fail
  refine Calls.mono HC.out ?_
  rintro e w' ⟨v, v', rfl, h⟩
  go_wp2
  go_ret2
  exact ⟨v, v', rfl, h⟩

set_option maxHeartbeats 2000000 in
/-- FnNamesApartAgainstModel returns true at every two lists. -/
theorem model_any (a a' : Option Addr) (n cap n' cap' : Nat) (W I : List ByteArray) (w : World) (hW : W.length = n) (hI : I.length = n') (hS : StrsAt w a n (get W)) (hS' : StrsAt w a' n' (get I))
    (hn : n ≤ maxLen) (hn' : n' ≤ maxLen) (hz : a = none → n = 0 ∧ cap = 0) (hz' : a' = none → n' = 0 ∧ cap' = 0) :
    Calls Try.prog 6 #[.slice a n cap, .slice a' n' cap'] w fun e w' => e = .returned (.bool true) ∧ Below w.heap.size w w' := by
  have H0 : Hid (W.length = n ∧ I.length = n' ∧ StrsAt w a n (get W) ∧ StrsAt w a' n' (get I) ∧ n ≤ maxLen ∧ n' ≤ maxLen ∧ (a = none → n = 0 ∧ cap = 0) ∧ (a' = none → n' = 0 ∧ cap' = 0)) := ⟨hW, hI, hS, hS', hn, hn', hz, hz'⟩
  clear hW hI hS hS' hn hn' hz hz'
  go_enter Try.func6, Try.ntmps6
  go_wp2_with fail
  refine (bytes18_any _ _ _ _ _ _ _ _ _ H0.out.2.2.1 H0.out.2.2.2.1 H0.out.2.2.2.2.1 H0.out.2.2.2.2.2.1).mono ?_
  rintro e w ⟨⟨bb, rfl⟩, rfl⟩
  cases bb
  · go_wp2_with fail
    go_ret
    exact ⟨rfl, Below.refl _ _⟩
  go_wp2_with fail
  refine (size_any _ _ _ _ _ H0.out.2.2.1 H0.out.2.2.2.2.1).mono ?_
  rintro e w ⟨z1, rfl, hz1, rfl⟩
  go_wp2_with fail
  refine (size_any _ _ _ _ _ H0.out.2.2.2.1 H0.out.2.2.2.2.2.1).mono ?_
  rintro e w ⟨z2, rfl, hz2, rfl⟩
  obtain ⟨p1, p2, p3⟩ := hz1
  obtain ⟨q1, q2, q3⟩ := hz2
  by_cases hsum : z1 + z2 ≤ 1048576
  case neg =>
    go_wp2_with fail
    go_ret
    exact ⟨rfl, Below.refl _ _⟩
  have hn : n ≤ 65536 := p3 (by omega)
  have hn' : n' ≤ 65536 := q3 (by omega)
  clear p3 q3
  go_wp2_with fail
  refine (asc_any _ _ _ _ _ H0.out.2.2.1 hn).mono ?_
  rintro e w1 ⟨b1, ⟨rfl, hb1⟩, hd1⟩
  have HD1 : Hid (Drew w w1) := hd1
  clear hd1
  cases b1
  · go_wp2_with fail
    go_ret
    exact ⟨rfl, HD1.out.below _⟩
  go_wp2_with fail
  refine (asc_any _ _ _ _ _ (H0.out.2.2.2.1.drew HD1.out) hn').mono ?_
  rintro e w2 ⟨b2, ⟨rfl, hb2⟩, hd2⟩
  have HD2 : Hid (Below w.heap.size w w2) := (HD1.out.below _).trans (hd2.below _)
  have HS1 : Hid (StrsAt w2 a n (get W)) := (H0.out.2.2.1.drew HD1.out).drew hd2
  have HS2 : Hid (StrsAt w2 a' n' (get I)) := (H0.out.2.2.2.1.drew HD1.out).drew hd2
  clear hd2 HD1
  cases b2
  · go_wp2_with fail
    go_ret
    exact ⟨rfl, HD2.out⟩
  have HA : Hid (Asc W ∧ Asc I) := by
    refine ⟨asc_of_steps ?_, asc_of_steps ?_⟩
    · rw [H0.out.1]; exact hb1 rfl
    · rw [H0.out.2.1]; exact hb2 rfl
  clear hb1 hb2
  go_wp2_with fail
  refine (clone_any _ _ _ _ _ HS1.out hn H0.out.2.2.2.2.2.2.1).mono ?_
  rintro e w3 ⟨a3, c3, rfl, hs3, hc3, hz3, hbel3⟩
  have HS3 : Hid (StrsAt w3 a3 n (get W) ∧ StrsAt w3 a' n' (get I) ∧ n ≤ c3 ∧ (a3 = none → n = 0 ∧ c3 = 0) ∧ Below w.heap.size w w3) :=
    ⟨hs3, HS2.out.below hbel3, hc3, hz3, HD2.out.trans (hbel3.mono HD2.out.size)⟩
  clear hs3 hc3 hz3 hbel3 HD2 HS1 HS2
  go_wp2_with fail
  refine (clone_any _ _ _ _ _ HS3.out.2.1 hn' H0.out.2.2.2.2.2.2.2).mono ?_
  rintro e w4 ⟨a4, c4, rfl, hs4, hc4, hz4, hbel4⟩
  have HS4 : Hid (StrsAt w4 a3 n (get W) ∧ StrsAt w4 a4 n' (get I) ∧ n ≤ c3 ∧ n' ≤ c4 ∧ (a3 = none → n = 0 ∧ c3 = 0) ∧ (a4 = none → n' = 0 ∧ c4 = 0) ∧ Below w.heap.size w w4) :=
    ⟨HS3.out.1.below hbel4, hs4, HS3.out.2.2.1, hc4, HS3.out.2.2.2.1, hz4, HS3.out.2.2.2.2.trans (hbel4.mono HS3.out.2.2.2.2.size)⟩
  clear hs4 hc4 hz4 hbel4 HS3
  go_wp2_with fail
  refine (zz_any a3 a4 n c3 n' c4 W I _ H0.out.1 H0.out.2.1 HA.out.1 HA.out.2 HS4.out.1 HS4.out.2.1 hn hn' HS4.out.2.2.1 HS4.out.2.2.2.1 HS4.out.2.2.2.2.1 HS4.out.2.2.2.2.2.1).mono ?_
  rintro e w5 ⟨v1, v2, rfl, o1, o2, y1, y2, hbel5⟩
  obtain ⟨k1, g1, d1, n1⟩ := ans_of o1 y1
  obtain ⟨k2, g2, d2, n2⟩ := ans_of o2 y2
  have HS5 : Hid (StrsAt w5 a3 n (get W) ∧ StrsAt w5 a4 n' (get I) ∧ Below w.heap.size w w5) :=
    ⟨HS4.out.1.below hbel5, HS4.out.2.1.below hbel5, HS4.out.2.2.2.2.2.2.trans (hbel5.mono HS4.out.2.2.2.2.2.2.size)⟩
  have hl1 : (W.filter fun x => !has I x).length ≤ 65536 := Nat.le_trans (List.length_filter_le _ _) (by rw [H0.out.1]; exact hn)
  have hl2 : (I.filter fun x => !has W x).length ≤ 65536 := Nat.le_trans (List.length_filter_le _ _) (by rw [H0.out.2.1]; exact hn')
  obtain ⟨rfl, s1, i1, j1, e1, f1⟩ := n1
  obtain ⟨rfl, s2, i2, j2, e2, f2⟩ := n2
  have hr1 : ∀ U, (binOp .eql 33 (.slice g1 (W.filter fun x => !has I x).length d1) (.slice none 0 0)).run Try.prog U = .ok (.bool k1) U := fun U => by rw [← i1]; exact Lib.run_eql_slice_nil U _ _ _ _ _ _ _ Try.underlying33
  have hr2 : ∀ U, (binOp .eql 33 (.slice g2 (I.filter fun x => !has W x).length d2) (.slice none 0 0)).run Try.prog U = .ok (.bool k2) U := fun U => by rw [← i2]; exact Lib.run_eql_slice_nil U _ _ _ _ _ _ _ Try.underlying33
  have HF1 : Hid (StrsAt w5 g1 (W.filter fun x => !has I x).length (get (W.filter fun x => !has I x))) := s1
  have HF2 : Hid (StrsAt w5 g2 (I.filter fun x => !has W x).length (get (I.filter fun x => !has W x))) := s2
  clear o1 o2 y1 y2 hbel5 HS4 s1 s2 i1 i2 e1 e2 f1 f2
  generalize hF1 : (W.filter fun x => !has I x) = F1 at *
  generalize hF2 : (I.filter fun x => !has W x) = F2 at *
  have HE1 : Hid ((W.filter fun x => !has I x) = F1) := hF1
  have HE2 : Hid ((I.filter fun x => !has W x) = F2) := hF2
  clear hF1 hF2
  go_wp2_with fail
  refine (missing_any a3 a4 n c3 n' c4 W I _ H0.out.1 H0.out.2.1 HA.out.2 HS5.out.1 HS5.out.2.1 hn hn').mono ?_
  rintro e w6 ⟨v6, rfl, o6, hbel6⟩
  rw [HE1.out] at o6
  obtain ⟨a6, c6, rfl, s6, _, _, _⟩ := o6.at
  have HS6 : Hid (StrsAt w6 a3 n (get W) ∧ StrsAt w6 a4 n' (get I) ∧ StrsAt w6 g1 F1.length (get F1) ∧ StrsAt w6 g2 F2.length (get F2) ∧ StrsAt w6 a6 F1.length (get F1) ∧ Below w.heap.size w w6) :=
    ⟨HS5.out.1.below hbel6, HS5.out.2.1.below hbel6, HF1.out.below hbel6, HF2.out.below hbel6, s6, HS5.out.2.2.trans (hbel6.mono HS5.out.2.2.size)⟩
  clear o6 s6 hbel6 HS5 HF1 HF2
  go_wp2_with fail
  refine (equal_any _ _ _ _ _ _ (get F1) (get F1) _ HS6.out.2.2.1 HS6.out.2.2.2.2.1 (by omega) rfl (fun _ _ => rfl)).mono ?_
  rintro e w7 ⟨rfl, hd7⟩
  have HS7 : Hid (StrsAt w7 a3 n (get W) ∧ StrsAt w7 a4 n' (get I) ∧ StrsAt w7 g2 F2.length (get F2) ∧ Below w.heap.size w w7) :=
    ⟨HS6.out.1.drew hd7, HS6.out.2.1.drew hd7, HS6.out.2.2.2.1.drew hd7, HS6.out.2.2.2.2.2.trans (hd7.below _)⟩
  clear hd7 HS6
  go_wp2_with fail
  refine (missing_any a4 a3 n' c4 n c3 I W _ H0.out.2.1 H0.out.1 HA.out.1 HS7.out.2.1 HS7.out.1 hn' hn).mono ?_
  rintro e w8 ⟨v8, rfl, o8, hbel8⟩
  rw [HE2.out] at o8
  obtain ⟨a8, c8, rfl, s8, _, _, _⟩ := o8.at
  have HS8 : Hid (StrsAt w8 g2 F2.length (get F2) ∧ StrsAt w8 a8 F2.length (get F2) ∧ Below w.heap.size w w8) :=
    ⟨HS7.out.2.2.1.below hbel8, s8, HS7.out.2.2.2.trans (hbel8.mono HS7.out.2.2.2.size)⟩
  clear o8 s8 hbel8 HS7
  go_wp2_with fail
  refine (equal_any _ _ _ _ _ _ (get F2) (get F2) _ HS8.out.1 HS8.out.2.1 (by omega) rfl (fun _ _ => rfl)).mono ?_
  rintro e w9 ⟨rfl, hd9⟩
  have HS9 : Hid (Below w.heap.size w w9) := HS8.out.2.2.trans (hd9.below _)
  clear hd9 HS8
  generalize F1.length = f1 at *
  generalize F2.length = f2 at *
  go_wp2
  go_ret
  exact ⟨rfl, HS9.out⟩

end Go.Proofs.Qxb6602261a.Nm
