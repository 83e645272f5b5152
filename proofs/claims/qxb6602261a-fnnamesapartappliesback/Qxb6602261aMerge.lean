/- The contract of zzb1Merge over the two halves that a filter makes of a strictly ascending list. -/
import Derived.Test.Qxb6602261aWithout
namespace Go.Proofs.Qxb6602261a.Nm
open Go.RowKit

set_option maxHeartbeats 4000000 in
/-- zzb1Merge of the two halves that a filter makes of an ascending list: the list. -/
theorem merge_any (a a' : Option Addr) (n cap n' cap' : Nat) (T A B : List ByteArray) (p : ByteArray → Bool) (w : World) (hA : A.length = n) (hB : B.length = n') (hAp : A = T.filter p) (hBp : B = T.filter fun x => !p x) (hT : Asc T)
    (hS : StrsAt w a n (get A)) (hS' : StrsAt w a' n' (get B)) (hn : n ≤ 65536) (hn' : n' ≤ 65536) :
    Calls Try.prog 28 #[.slice a n cap, .slice a' n' cap'] w fun e w' => ∃ v, e = .returned v ∧ Own w' w.heap.size v T ∧ Below w.heap.size w w' := by
  have hsum : T.length = n + n' := by
    have := cnt_sum p T T.length (Nat.le_refl _)
    rw [cnt_all, cnt_all, ← hAp, ← hBp] at this
    omega
  have HH : Hid (A.length = n ∧ B.length = n' ∧ A = T.filter p ∧ (B = T.filter fun x => !p x) ∧ Asc T ∧ T.length = n + n') := ⟨hA, hB, hAp, hBp, hT, hsum⟩
  clear hA hB hAp hBp hT hsum
  obtain ⟨i0, hi, hz0, hz1, hz2⟩ := info_parts info9
  go_enter Try.func28, Try.ntmps28
  go_wp2_with (at_make; refine wpList_make_own _ rfl _ _ 33 rfl w.heap.size 9 i0 (.string ByteArray.empty) 1 Try.underlying33 hi hz0 hz1 _ _ _ (n + n') rfl rfl (by omega) (by rw [hz2]; omega) (by unfold maxLen; omega) (Nat.le_refl _) ?_; intro w1 hown1 hgrow1)
  have hbel1 : Below w.heap.size w w1 := (Below.refl _ _).grown hgrow1 (Nat.le_refl _) (fun k hk => by cases hk)
  have hown2 : Own w1 w.heap.size (.slice (some ⟨w.heap.size, 0, none⟩) 0 (n + n')) [] := hown1
  clear hown1 hgrow1 hi hz0 hz1 hz2
  go_loopw [5, 6, 7] (fun v x y wr => ∃ k i j : Nat, k ≤ n + n' ∧ i ≤ n ∧ j ≤ n' ∧ x = .int .i64 i ∧ y = .int .i64 j ∧ Hid (i = cnt p T k ∧ j = cnt (fun x => !p x) T k) ∧ Own wr w.heap.size v (T.take k) ∧ Below w.heap.size w wr)
    (fun _ x y _ => n + n' - ((intOf x).toNat + (intOf y).toNat))
  case atStart => exact ⟨0, 0, 0, Nat.zero_le _, Nat.zero_le _, Nat.zero_le _, rfl, rfl, ⟨(cnt_zero _ _).symm, (cnt_zero _ _).symm⟩, by simpa using hown2, hbel1⟩
  case round =>
    clear hown2 hbel1
    obtain ⟨k, i, j, hk, hi, hj, rfl, rfl, HC, hown, hbel⟩ := hrel
    have hij : i + j = k := by
      have := cnt_sum p T k (by rw [HH.out.2.2.2.2.2]; exact hk)
      rw [← HC.out.1, ← HC.out.2] at this
      exact this
    by_cases hlt : k < n + n'
    · have hlk : k < T.length := by rw [HH.out.2.2.2.2.2]; exact hlt
      have hs1 := hS.below hbel
      have hs2 := hS'.below hbel
      have htl : (T.take k).length ≤ 131072 := by have := List.length_take_le k T; omega
      have HK : Hid (T.take (k + 1) = T.take k ++ [get T k]) := take_get hlk
      cases hp : p (get T k)
      · have HC' : Hid (i = cnt p T (k + 1) ∧ j + 1 = cnt (fun x => !p x) T (k + 1)) := by
          rw [cnt_no hlk hp, cnt_yes hlk (by simp [hp]), ← HC.out.2]; exact ⟨HC.out.1, rfl⟩
        have hny := next_yes (p := fun x => !p x) hlk (by simp [hp])
        rw [← HH.out.2.2.2.1, HH.out.2.1, ← HC.out.2] at hny
        obtain ⟨hc, hgt⟩ := hny
        obtain ⟨b', o', rfl, hc1⟩ := hs2 j hc
        rw [hgt] at hc1
        have hji : (j : Int) < (n' : Int) := by omega
        have hjd : decide (n' ≤ j) = false := by simp; omega
        by_cases hin : i < n
        · obtain ⟨b, o, rfl, hc0⟩ := hs1 i hin
          have hii : (i : Int) < (n : Int) := by omega
          have hne : Op.bytesLess (get A i).toList (get T k).toList = false := by
            have hcl : cnt p T k < (T.filter p).length := by rw [← HH.out.2.2.1, HH.out.1, ← HC.out.1]; exact hin
            have := next_no HH.out.2.2.2.2.1 hlk hp hcl
            rw [← HH.out.2.2.1, ← HC.out.1] at this
            exact Lt.bool_false this.asymm
          clear hs1 hs2 hS hS' hlk HC hgt hij
          go_wp2_with fail
          go_big_quiet (fail)
          have hown2 := hown.drewN nq
          have hbel2 := below_drewN hbel nq
          have hd0 : (wr.drewN nq).cell? ⟨b', o' + j, none⟩ = some (.string (get T k)) := hc1
          clear hown hbel hc0 hc1
          generalize wr.drewN nq = wq at *
          have hszq := hbel2.size
          go_wp2_with (at_builtin; refine wpList_app rfl (.tmp 54) (.tmp 59) rfl w.heap.size _ (T.take k) rfl (hown2.alloc _) (some ⟨wq.heap.size, 0, none⟩) 1 1 [get T k] rfl rfl (strsAt_new _ _) (fun e => by cases e) (by omega) (by simp; omega) ?_; intro v1 w1 hown1 hgrow1 hnil1 hat1)
          have HO : Hid (Own w1 w.heap.size v1 (T.take k ++ [get T k]) ∧ Below w.heap.size w w1) := ⟨hown1, below_app hbel2 (Nat.le_refl _) hown2 hgrow1⟩
          clear hown1 hgrow1 hnil1 hat1 hown2
          go_wp2
          go_roundw
          case rel => exact ⟨k + 1, i, j + 1, by omega, hi, by omega, rfl, by go_num, HC'.out, by rw [HK.out]; exact HO.out.1, HO.out.2⟩
          case measure => simp [intOf]; omega
        · have hid : decide ((i : Int) < (n : Int)) = false := by simp; omega
          have hid2 : decide (i < n) = false := by simp; omega
          clear hs1 hs2 hS hS' hlk HC hgt hij
          go_wp2_with fail
          go_big_quiet (fail)
          have hown2 := hown.drewN nq
          have hbel2 := below_drewN hbel nq
          have hd0 : (wr.drewN nq).cell? ⟨b', o' + j, none⟩ = some (.string (get T k)) := hc1
          clear hown hbel hc1
          generalize wr.drewN nq = wq at *
          have hszq := hbel2.size
          go_wp2_with (at_builtin; refine wpList_app rfl (.tmp 54) (.tmp 59) rfl w.heap.size _ (T.take k) rfl (hown2.alloc _) (some ⟨wq.heap.size, 0, none⟩) 1 1 [get T k] rfl rfl (strsAt_new _ _) (fun e => by cases e) (by omega) (by simp; omega) ?_; intro v1 w1 hown1 hgrow1 hnil1 hat1)
          have HO : Hid (Own w1 w.heap.size v1 (T.take k ++ [get T k]) ∧ Below w.heap.size w w1) := ⟨hown1, below_app hbel2 (Nat.le_refl _) hown2 hgrow1⟩
          clear hown1 hgrow1 hnil1 hat1 hown2
          go_wp2
          go_roundw
          case rel => exact ⟨k + 1, i, j + 1, by omega, hi, by omega, rfl, by go_num, HC'.out, by rw [HK.out]; exact HO.out.1, HO.out.2⟩
          case measure => simp [intOf]; omega
      · have HC' : Hid (i + 1 = cnt p T (k + 1) ∧ j = cnt (fun x => !p x) T (k + 1)) := by
          rw [cnt_yes hlk hp, cnt_no hlk (by simp [hp]), ← HC.out.1]; exact ⟨rfl, HC.out.2⟩
        have hny := next_yes (p := p) hlk hp
        rw [← HH.out.2.2.1, HH.out.1, ← HC.out.1] at hny
        obtain ⟨hc, hgt⟩ := hny
        obtain ⟨b, o, rfl, hc0⟩ := hs1 i hc
        rw [hgt] at hc0
        have hii : (i : Int) < (n : Int) := by omega
        by_cases hjn : j < n'
        · obtain ⟨b', o', rfl, hc1⟩ := hs2 j hjn
          have hji : (j : Int) < (n' : Int) := by omega
          have hjd : decide (n' ≤ j) = false := by simp; omega
          have hne : Op.bytesLess (get T k).toList (get B j).toList = true := by
            have hcl : cnt (fun x => !p x) T k < (T.filter fun x => !p x).length := by rw [← HH.out.2.2.2.1, HH.out.2.1, ← HC.out.2]; exact hjn
            have := next_no (p := fun x => !p x) HH.out.2.2.2.2.1 hlk (by simp [hp]) hcl
            rw [← HH.out.2.2.2.1, ← HC.out.2] at this
            exact this
          clear hs1 hs2 hS hS' hlk HC hgt hij
          go_wp2_with fail
          go_big_quiet (fail)
          have hown2 := hown.drewN nq
          have hbel2 := below_drewN hbel nq
          have hd0 : (wr.drewN nq).cell? ⟨b, o + i, none⟩ = some (.string (get T k)) := hc0
          clear hown hbel hc0 hc1
          generalize wr.drewN nq = wq at *
          have hszq := hbel2.size
          go_wp2_with (at_builtin; refine wpList_app rfl (.tmp 45) (.tmp 50) rfl w.heap.size _ (T.take k) rfl (hown2.alloc _) (some ⟨wq.heap.size, 0, none⟩) 1 1 [get T k] rfl rfl (strsAt_new _ _) (fun e => by cases e) (by omega) (by simp; omega) ?_; intro v1 w1 hown1 hgrow1 hnil1 hat1)
          have HO : Hid (Own w1 w.heap.size v1 (T.take k ++ [get T k]) ∧ Below w.heap.size w w1) := ⟨hown1, below_app hbel2 (Nat.le_refl _) hown2 hgrow1⟩
          clear hown1 hgrow1 hnil1 hat1 hown2
          go_wp2
          go_roundw
          case rel => exact ⟨k + 1, i + 1, j, by omega, by omega, hj, by go_num, rfl, HC'.out, by rw [HK.out]; exact HO.out.1, HO.out.2⟩
          case measure => simp [intOf]; omega
        · have hjd : decide (n' ≤ j) = true := by simp; omega
          clear hs1 hs2 hS hS' hlk HC hgt hij
          go_wp2_with fail
          go_big_quiet (fail)
          have hown2 := hown.drewN nq
          have hbel2 := below_drewN hbel nq
          have hd0 : (wr.drewN nq).cell? ⟨b, o + i, none⟩ = some (.string (get T k)) := hc0
          clear hown hbel hc0
          generalize wr.drewN nq = wq at *
          have hszq := hbel2.size
          go_wp2_with (at_builtin; refine wpList_app rfl (.tmp 45) (.tmp 50) rfl w.heap.size _ (T.take k) rfl (hown2.alloc _) (some ⟨wq.heap.size, 0, none⟩) 1 1 [get T k] rfl rfl (strsAt_new _ _) (fun e => by cases e) (by omega) (by simp; omega) ?_; intro v1 w1 hown1 hgrow1 hnil1 hat1)
          have HO : Hid (Own w1 w.heap.size v1 (T.take k ++ [get T k]) ∧ Below w.heap.size w w1) := ⟨hown1, below_app hbel2 (Nat.le_refl _) hown2 hgrow1⟩
          clear hown1 hgrow1 hnil1 hat1 hown2
          go_wp2
          go_roundw
          case rel => exact ⟨k + 1, i + 1, j, by omega, by omega, hj, by go_num, rfl, HC'.out, by rw [HK.out]; exact HO.out.1, HO.out.2⟩
          case measure => simp [intOf]; omega
    · have e : k = n + n' := by omega
      have hF : T.take k = T := by rw [e, ← HH.out.2.2.2.2.2]; exact List.take_length
      have hi' : i = n := by omega
      have hj' : j = n' := by omega
      rw [hF] at hown
      clear hF hS hS' HC hij
      subst hi' hj'
      go_wp2
      go_ret
      exact ⟨_, rfl, hown, hbel⟩

end Go.Proofs.Qxb6602261a.Nm
