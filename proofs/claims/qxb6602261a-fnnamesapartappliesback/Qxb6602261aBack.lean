/- The walk of FnNamesApartAppliesBack. -/
import Derived.Test.Qxb6602261aModel
import Derived.Test.Qxb6602261aMerge
namespace Go.Proofs.Qxb6602261a.Nm
open Go.RowKit

set_option maxHeartbeats 2000000 in
/-- FnNamesApartAppliesBack returns true at every two lists. -/
theorem back_any (a a' : Option Addr) (n cap n' cap' : Nat) (W I : List ByteArray) (w : World) (hW : W.length = n) (hI : I.length = n') (hS : StrsAt w a n (get W)) (hS' : StrsAt w a' n' (get I))
    (hn : n ≤ maxLen) (hn' : n' ≤ maxLen) (hz : a = none → n = 0 ∧ cap = 0) (hz' : a' = none → n' = 0 ∧ cap' = 0) :
    Calls Try.prog 8 #[.slice a n cap, .slice a' n' cap'] w fun e w' => e = .returned (.bool true) ∧ Below w.heap.size w w' := by
  have H0 : Hid (W.length = n ∧ I.length = n' ∧ StrsAt w a n (get W) ∧ StrsAt w a' n' (get I) ∧ n ≤ maxLen ∧ n' ≤ maxLen ∧ (a = none → n = 0 ∧ cap = 0) ∧ (a' = none → n' = 0 ∧ cap' = 0)) := ⟨hW, hI, hS, hS', hn, hn', hz, hz'⟩
  clear hW hI hS hS' hn hn' hz hz'
  go_enter Try.func8, Try.ntmps8
  go_wp2_with fail
  refine (bytes26_any _ _ _ _ _ _ _ _ _ H0.out.2.2.1 H0.out.2.2.2.1 H0.out.2.2.2.2.1 H0.out.2.2.2.2.2.1).mono ?_
  rintro e w ⟨⟨bb, rfl⟩, rfl⟩
  cases bb
  · go_wp2_with fail
    go_ret
    exact ⟨rfl, Below.refl _ _⟩
  go_wp2_with fail
  refine (size_any _ _ _ _ _ H0.out.2.2.1 H0.out.2.2.2.2.1).mono ?_
  rintro e w ⟨z1, rfl, hz1, rfl⟩
  go_wp2_with fail
  refine (size_any _ _ _ _ _ H0.out.2.2.2.1 H0.out.2.2.2.2.2.1).mono ?_
  rintro e w ⟨z2, rfl, hz2, rfl⟩
  obtain ⟨p1, p2, p3⟩ := hz1
  obtain ⟨q1, q2, q3⟩ := hz2
  by_cases hsum : z1 + z2 ≤ 1048576
  case neg =>
    go_wp2_with fail
    go_ret
    exact ⟨rfl, Below.refl _ _⟩
  have hn : n ≤ 65536 := p3 (by omega)
  have hn' : n' ≤ 65536 := q3 (by omega)
  clear p3 q3
  go_wp2_with fail
  refine (asc_any _ _ _ _ _ H0.out.2.2.1 hn).mono ?_
  rintro e w1 ⟨b1, ⟨rfl, hb1⟩, hd1⟩
  have HD1 : Hid (Drew w w1) := hd1
  clear hd1
  cases b1
  · go_wp2_with fail
    go_ret
    exact ⟨rfl, HD1.out.below _⟩
  go_wp2_with fail
  refine (asc_any _ _ _ _ _ (H0.out.2.2.2.1.drew HD1.out) hn').mono ?_
  rintro e w2 ⟨b2, ⟨rfl, hb2⟩, hd2⟩
  have HD2 : Hid (Below w.heap.size w w2) := (HD1.out.below _).trans (hd2.below _)
  have HS1 : Hid (StrsAt w2 a n (get W)) := (H0.out.2.2.1.drew HD1.out).drew hd2
  have HS2 : Hid (StrsAt w2 a' n' (get I)) := (H0.out.2.2.2.1.drew HD1.out).drew hd2
  clear hd2 HD1
  cases b2
  · go_wp2_with fail
    go_ret
    exact ⟨rfl, HD2.out⟩
  have HA : Hid (Asc W ∧ Asc I) := by
    refine ⟨asc_of_steps ?_, asc_of_steps ?_⟩
    · rw [H0.out.1]; exact hb1 rfl
    · rw [H0.out.2.1]; exact hb2 rfl
  clear hb1 hb2
  go_wp2_with fail
  refine (clone_any _ _ _ _ _ HS1.out hn H0.out.2.2.2.2.2.2.1).mono ?_
  rintro e w3 ⟨a3, c3, rfl, hs3, hc3, hz3, hbel3⟩
  have HS3 : Hid (StrsAt w3 a3 n (get W) ∧ StrsAt w3 a' n' (get I) ∧ n ≤ c3 ∧ (a3 = none → n = 0 ∧ c3 = 0) ∧ Below w.heap.size w w3) :=
    ⟨hs3, HS2.out.below hbel3, hc3, hz3, HD2.out.trans (hbel3.mono HD2.out.size)⟩
  clear hs3 hc3 hz3 hbel3 HD2 HS1 HS2
  go_wp2_with fail
  refine (clone_any _ _ _ _ _ HS3.out.2.1 hn' H0.out.2.2.2.2.2.2.2).mono ?_
  rintro e w4 ⟨a4, c4, rfl, hs4, hc4, hz4, hbel4⟩
  have HS4 : Hid (StrsAt w4 a3 n (get W) ∧ StrsAt w4 a4 n' (get I) ∧ n ≤ c3 ∧ n' ≤ c4 ∧ (a3 = none → n = 0 ∧ c3 = 0) ∧ (a4 = none → n' = 0 ∧ c4 = 0) ∧ Below w.heap.size w w4) :=
    ⟨HS3.out.1.below hbel4, hs4, HS3.out.2.2.1, hc4, HS3.out.2.2.2.1, hz4, HS3.out.2.2.2.2.trans (hbel4.mono HS3.out.2.2.2.2.size)⟩
  clear hs4 hc4 hz4 hbel4 HS3
  go_wp2_with fail
  refine (zz_any a3 a4 n c3 n' c4 W I _ H0.out.1 H0.out.2.1 HA.out.1 HA.out.2 HS4.out.1 HS4.out.2.1 hn hn' HS4.out.2.2.1 HS4.out.2.2.2.1 HS4.out.2.2.2.2.1 HS4.out.2.2.2.2.2.1).mono ?_
  rintro e w5 ⟨v1, v2, rfl, o1, o2, y1, y2, hbel5⟩
  obtain ⟨k1, g1, d1, n1⟩ := ans_of o1 y1
  obtain ⟨k2, g2, d2, n2⟩ := ans_of o2 y2
  have HS5 : Hid (StrsAt w5 a3 n (get W) ∧ StrsAt w5 a4 n' (get I) ∧ Below w.heap.size w w5) :=
    ⟨HS4.out.1.below hbel5, HS4.out.2.1.below hbel5, HS4.out.2.2.2.2.2.2.trans (hbel5.mono HS4.out.2.2.2.2.2.2.size)⟩
  have hl1 : (W.filter fun x => !has I x).length ≤ 65536 := Nat.le_trans (List.length_filter_le _ _) (by rw [H0.out.1]; exact hn)
  have hl2 : (I.filter fun x => !has W x).length ≤ 65536 := Nat.le_trans (List.length_filter_le _ _) (by rw [H0.out.2.1]; exact hn')
  obtain ⟨rfl, s1, i1, j1, e1, f1⟩ := n1
  obtain ⟨rfl, s2, i2, j2, e2, f2⟩ := n2
  have HF1 : Hid (StrsAt w5 g1 (W.filter fun x => !has I x).length (get (W.filter fun x => !has I x))) := s1
  have HF2 : Hid (StrsAt w5 g2 (I.filter fun x => !has W x).length (get (I.filter fun x => !has W x))) := s2
  clear o1 o2 y1 y2 hbel5 HS4 s1 s2 i1 i2 e1 e2 f1 f2 j1 j2
  generalize hF1 : (W.filter fun x => !has I x) = F1 at *
  generalize hF2 : (I.filter fun x => !has W x) = F2 at *
  have HE1 : Hid (F1 = W.filter fun x => !has I x) := hF1.symm
  have HE2 : Hid (F2 = I.filter fun x => !has W x) := hF2.symm
  clear hF1 hF2
  obtain ⟨f1, hf1⟩ : ∃ f1, F1.length = f1 := ⟨_, rfl⟩
  obtain ⟨f2, hf2⟩ : ∃ f2, F2.length = f2 := ⟨_, rfl⟩
  rw [hf1] at HF1 hl1
  rw [hf2] at HF2 hl2
  rw [hf1, hf2]
  have HL : Hid (F1.length = f1 ∧ F2.length = f2) := ⟨hf1, hf2⟩
  clear hf1 hf2
  go_wp2_with fail
  refine (without_any a3 g1 n c3 f1 d1 W F1 (fun x => !has I x) _ H0.out.1 HL.out.1 HE1.out HA.out.1 HS5.out.1 HF1.out hn).mono ?_
  rintro e w6 ⟨v6, rfl, o6, hbel6⟩
  rw [not_not_filter] at o6
  obtain ⟨a6, c6, rfl, s6, z6, _, _⟩ := o6.at
  have HS6 : Hid (StrsAt w6 a3 n (get W) ∧ StrsAt w6 a4 n' (get I) ∧ StrsAt w6 g1 f1 (get F1) ∧ StrsAt w6 g2 f2 (get F2) ∧ StrsAt w6 a6 (W.filter fun x => has I x).length (get (W.filter fun x => has I x)) ∧ Below w.heap.size w w6) :=
    ⟨HS5.out.1.below hbel6, HS5.out.2.1.below hbel6, HF1.out.below hbel6, HF2.out.below hbel6, s6, HS5.out.2.2.trans (hbel6.mono HS5.out.2.2.size)⟩
  clear o6 s6 hbel6 HS5 HF1 HF2 z6
  go_wp2_with fail
  refine (without_any a4 g2 n' c4 f2 d2 I F2 (fun x => !has W x) _ H0.out.2.1 HL.out.2 HE2.out HA.out.2 HS6.out.2.1 HS6.out.2.2.2.1 hn').mono ?_
  rintro e w7 ⟨v7, rfl, o7, hbel7⟩
  rw [not_not_filter, ← shared HA.out.1 HA.out.2] at o7
  obtain ⟨a7, c7, rfl, s7, z7, _, _⟩ := o7.at
  have HS7 : Hid (StrsAt w7 a3 n (get W) ∧ StrsAt w7 a4 n' (get I) ∧ StrsAt w7 g1 f1 (get F1) ∧ StrsAt w7 g2 f2 (get F2) ∧ StrsAt w7 a6 (W.filter fun x => has I x).length (get (W.filter fun x => has I x)) ∧
      StrsAt w7 a7 (W.filter fun x => has I x).length (get (W.filter fun x => has I x)) ∧ Below w.heap.size w w7) :=
    ⟨HS6.out.1.below hbel7, HS6.out.2.1.below hbel7, HS6.out.2.2.1.below hbel7, HS6.out.2.2.2.1.below hbel7, HS6.out.2.2.2.2.1.below hbel7, s7, HS6.out.2.2.2.2.2.trans (hbel7.mono HS6.out.2.2.2.2.2.size)⟩
  clear o7 s7 hbel7 HS6 z7
  have hl3 : (W.filter fun x => has I x).length ≤ 65536 := Nat.le_trans (List.length_filter_le _ _) (by rw [H0.out.1]; exact hn)
  generalize hK : (W.filter fun x => has I x) = K at *
  have HK : Hid ((W.filter fun x => has I x) = K) := hK
  clear hK
  obtain ⟨kk, hkk⟩ : ∃ kk, K.length = kk := ⟨_, rfl⟩
  rw [hkk] at HS7 hl3
  rw [hkk]
  have HKL : Hid (K.length = kk) := hkk
  clear hkk
  go_wp2_with fail
  refine (equal_any _ _ _ _ _ _ (get K) (get K) _ HS7.out.2.2.2.2.1 HS7.out.2.2.2.2.2.1 (by omega) rfl (fun _ _ => rfl)).mono ?_
  rintro e w8 ⟨rfl, hd8⟩
  have HS8 : Hid (StrsAt w8 a3 n (get W) ∧ StrsAt w8 a4 n' (get I) ∧ StrsAt w8 g1 f1 (get F1) ∧ StrsAt w8 g2 f2 (get F2) ∧ StrsAt w8 a6 kk (get K) ∧ StrsAt w8 a7 kk (get K) ∧ Below w.heap.size w w8) :=
    ⟨HS7.out.1.drew hd8, HS7.out.2.1.drew hd8, HS7.out.2.2.1.drew hd8, HS7.out.2.2.2.1.drew hd8, HS7.out.2.2.2.2.1.drew hd8, HS7.out.2.2.2.2.2.1.drew hd8, HS7.out.2.2.2.2.2.2.trans (hd8.below _)⟩
  clear hd8 HS7
  go_wp2_with fail
  refine (merge_any a6 g2 kk c6 f2 d2 I K F2 (fun x => has W x) _ HKL.out HL.out.2 (by rw [← HK.out]; exact shared HA.out.1 HA.out.2) HE2.out HA.out.2 HS8.out.2.2.2.2.1 HS8.out.2.2.2.1 hl3 hl2).mono ?_
  rintro e w9 ⟨v9, rfl, o9, hbel9⟩
  obtain ⟨a9, c9, rfl, s9, z9, _, _⟩ := o9.at
  rw [H0.out.2.1] at s9
  rw [H0.out.2.1]
  have HS9 : Hid (StrsAt w9 a3 n (get W) ∧ StrsAt w9 a4 n' (get I) ∧ StrsAt w9 g1 f1 (get F1) ∧ StrsAt w9 a7 kk (get K) ∧ StrsAt w9 a9 n' (get I) ∧ Below w.heap.size w w9) :=
    ⟨HS8.out.1.below hbel9, HS8.out.2.1.below hbel9, HS8.out.2.2.1.below hbel9, HS8.out.2.2.2.2.2.1.below hbel9, s9, HS8.out.2.2.2.2.2.2.trans (hbel9.mono HS8.out.2.2.2.2.2.2.size)⟩
  clear o9 s9 hbel9 HS8 z9
  go_wp2_with fail
  refine (equal_any _ _ _ _ _ _ (get I) (get I) _ HS9.out.2.2.2.2.1 HS9.out.2.1 (by omega) rfl (fun _ _ => rfl)).mono ?_
  rintro e w10 ⟨rfl, hd10⟩
  have HS10 : Hid (StrsAt w10 a3 n (get W) ∧ StrsAt w10 g1 f1 (get F1) ∧ StrsAt w10 a7 kk (get K) ∧ Below w.heap.size w w10) :=
    ⟨HS9.out.1.drew hd10, HS9.out.2.2.1.drew hd10, HS9.out.2.2.2.1.drew hd10, HS9.out.2.2.2.2.2.trans (hd10.below _)⟩
  clear hd10 HS9
  go_wp2_with fail
  refine (merge_any a7 g1 kk c7 f1 d1 W K F1 (fun x => has I x) _ HKL.out HL.out.1 HK.out.symm HE1.out HA.out.1 HS10.out.2.2.1 HS10.out.2.1 hl3 hl1).mono ?_
  rintro e w11 ⟨v11, rfl, o11, hbel11⟩
  obtain ⟨a11, c11, rfl, s11, z11, _, _⟩ := o11.at
  rw [H0.out.1] at s11
  rw [H0.out.1]
  have HS11 : Hid (StrsAt w11 a3 n (get W) ∧ StrsAt w11 a11 n (get W) ∧ Below w.heap.size w w11) :=
    ⟨HS10.out.1.below hbel11, s11, HS10.out.2.2.2.trans (hbel11.mono HS10.out.2.2.2.size)⟩
  clear o11 s11 hbel11 HS10 z11
  go_wp2_with fail
  refine (equal_any _ _ _ _ _ _ (get W) (get W) _ HS11.out.2.1 HS11.out.1 (by omega) rfl (fun _ _ => rfl)).mono ?_
  rintro e w12 ⟨rfl, hd12⟩
  have HS12 : Hid (Below w.heap.size w w12) := HS11.out.2.2.trans (hd12.below _)
  clear hd12 HS11
  go_wp2
  go_ret
  exact ⟨rfl, HS12.out⟩

end Go.Proofs.Qxb6602261a.Nm
