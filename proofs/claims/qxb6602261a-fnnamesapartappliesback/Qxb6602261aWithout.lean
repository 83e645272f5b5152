/- The contract of zzb1Without over what a filter leaves of a strictly ascending list. -/
import Derived.Test.Qxb6602261aApp
import Derived.Deep.RegionHeld3
namespace Go.Proofs.Qxb6602261a.Nm
open Go.RowKit

theorem not_not_filter (p : ByteArray → Bool) (T : List ByteArray) : T.filter (fun x => !(!p x)) = T.filter p := by
  congr 1; funext x; simp

theorem cnt_sum (p : ByteArray → Bool) (T : List ByteArray) (n : Nat) (hn : n ≤ T.length) : cnt p T n + cnt (fun x => !p x) T n = n := by
  induction n with
  | zero => simp [cnt]
  | succ n ih =>
    have := ih (by omega)
    have hlt : n < T.length := by omega
    cases hp : p (get T n)
    · rw [cnt_no hlt hp, cnt_yes hlt (by simp [hp])]; omega
    · rw [cnt_yes hlt hp, cnt_no hlt (by simp [hp])]; omega

set_option maxHeartbeats 2000000 in
/-- zzb1Without of an ascending list and what a filter leaves of it: the rest, and true. -/
theorem without_any (a a' : Option Addr) (n cap n' cap' : Nat) (T F : List ByteArray) (p : ByteArray → Bool) (w : World) (hT : T.length = n) (hF : F.length = n') (hFp : F = T.filter p) (hA : Asc T)
    (hS : StrsAt w a n (get T)) (hS' : StrsAt w a' n' (get F)) (hn : n ≤ 65536) :
    Calls Try.prog 27 #[.slice a n cap, .slice a' n' cap'] w fun e w' => ∃ v, e = .returned (.tuple #[v, .bool true]) ∧ Own w' w.heap.size v (T.filter fun x => !p x) ∧ Below w.heap.size w w' := by
  have HT : Hid (T.length = n) := hT
  have HF : Hid (F.length = n' ∧ F = T.filter p) := ⟨hF, hFp⟩
  have HA : Hid (Asc T) := hA
  have hfn : n' ≤ n := by rw [← hF, ← hT, hFp]; exact List.length_filter_le _ _
  clear hT hF hFp hA
  go_enter Try.func27, Try.ntmps27
  go_wp2
  go_loopw [6, 7, 8] (fun v j i wr => ∃ k c : Nat, k ≤ n ∧ c ≤ n' ∧ i = .int .i64 k ∧ j = .int .i64 c ∧ Hid (c = cnt p T k) ∧ Own wr w.heap.size v ((T.take k).filter fun x => !p x) ∧ Below w.heap.size w wr) (fun _ _ i _ => n - (intOf i).toNat)
  case atStart => exact ⟨0, 0, Nat.zero_le _, Nat.zero_le _, rfl, rfl, (cnt_zero _ _).symm, by simpa using Own.nil _ _, Below.refl _ _⟩
  case round =>
    obtain ⟨k, c, hk, hcn, rfl, rfl, HC, hown, hbel⟩ := hrel
    by_cases hlt : k < n
    · have hlk : k < T.length := by rw [HT.out]; exact hlt
      have hs1 := hS.below hbel
      have hs2 := hS'.below hbel
      have hcl := Nat.le_trans (cnt_le' (fun x => !p x) T k) (Nat.le_of_lt hlt)
      unfold cnt at hcl
      have hki : (k : Int) < (n : Int) := by omega
      obtain ⟨b, o, rfl, hc0⟩ := hs1 k hlt
      cases hp : p (get T k)
      · have HK : Hid ((T.take (k + 1)).filter (fun x => !p x) = (T.take k).filter (fun x => !p x) ++ [get T k]) := filter_take_yes hlk (by simp [hp])
        have HC' : Hid (c = cnt p T (k + 1)) := by rw [cnt_no hlk hp]; exact HC.out
        generalize (T.take k).filter (fun x => !p x) = G at *
        by_cases hc : c < n'
        · obtain ⟨b', o', rfl, hc1⟩ := hs2 c hc
          have hci : (c : Int) < (n' : Int) := by omega
          have hne : ((get T k).toList == (get F c).toList) = false := by
            have hcl : cnt p T k < (T.filter p).length := by rw [← HF.out.2, HF.out.1, ← HC.out]; exact hc
            have := next_no HA.out hlk hp hcl
            rw [← HF.out.2, ← HC.out] at this
            exact seq_false this.ne
          clear hs1 hs2 hS hS' hlk HC
          go_wp2_with fail
          go_quiet (fail)
          have hown2 := hown.drewN nq
          have hbel2 := below_drewN hbel nq
          have hd0 : (wr.drewN nq).cell? ⟨b, o + k, none⟩ = some (.string (get T k)) := hc0
          clear hown hbel hc0 hc1
          generalize wr.drewN nq = wq at *
          have hszq := hbel2.size
          go_wp2_with (at_builtin; refine wpList_app rfl (.tmp 32) (.tmp 37) rfl w.heap.size _ G rfl (hown2.alloc _) (some ⟨wq.heap.size, 0, none⟩) 1 1 [get T k] rfl rfl (strsAt_new _ _) (fun e => by cases e) (by omega) (by simp; omega) ?_; intro v1 w1 hown1 hgrow1 hnil1 hat1)
          have HO : Hid (Own w1 w.heap.size v1 (G ++ [get T k]) ∧ Below w.heap.size w w1) := ⟨hown1, below_app hbel2 (Nat.le_refl _) hown2 hgrow1⟩
          clear hown1 hgrow1 hnil1 hat1 hown2
          go_roundw
          case rel => exact ⟨k + 1, c, by omega, hcn, by go_num, rfl, HC'.out, by rw [HK.out]; exact HO.out.1, HO.out.2⟩
          case measure => simp [intOf]; omega
        · have hci : decide ((c : Int) < (n' : Int)) = false := by simp; omega
          clear hs1 hs2 hS hS' hlk HC
          go_wp2_with fail
          go_quiet (fail)
          have hown2 := hown.drewN nq
          have hbel2 := below_drewN hbel nq
          have hd0 : (wr.drewN nq).cell? ⟨b, o + k, none⟩ = some (.string (get T k)) := hc0
          clear hown hbel hc0
          generalize wr.drewN nq = wq at *
          have hszq := hbel2.size
          go_wp2_with (at_builtin; refine wpList_app rfl (.tmp 32) (.tmp 37) rfl w.heap.size _ G rfl (hown2.alloc _) (some ⟨wq.heap.size, 0, none⟩) 1 1 [get T k] rfl rfl (strsAt_new _ _) (fun e => by cases e) (by omega) (by simp; omega) ?_; intro v1 w1 hown1 hgrow1 hnil1 hat1)
          have HO : Hid (Own w1 w.heap.size v1 (G ++ [get T k]) ∧ Below w.heap.size w w1) := ⟨hown1, below_app hbel2 (Nat.le_refl _) hown2 hgrow1⟩
          clear hown1 hgrow1 hnil1 hat1 hown2
          go_roundw
          case rel => exact ⟨k + 1, c, by omega, hcn, by go_num, rfl, HC'.out, by rw [HK.out]; exact HO.out.1, HO.out.2⟩
          case measure => simp [intOf]; omega
      · have HK : Hid ((T.take (k + 1)).filter (fun x => !p x) = (T.take k).filter (fun x => !p x)) := filter_take_no hlk (by simp [hp])
        have HC' : Hid (c + 1 = cnt p T (k + 1)) := by rw [cnt_yes hlk hp, ← HC.out]; rfl
        have hny := next_yes hlk hp
        rw [← HF.out.2, HF.out.1, ← HC.out] at hny
        obtain ⟨hc, hgt⟩ := hny
        obtain ⟨b', o', rfl, hc1⟩ := hs2 c hc
        rw [hgt] at hc1
        have hci : (c : Int) < (n' : Int) := by omega
        clear hs1 hs2 hS hS' hlk HC hgt
        generalize (T.take k).filter (fun x => !p x) = G at *
        go_wp2_with fail
        go_quiet (fail)
        have hown2 := hown.drewN nq
        have hbel2 := below_drewN hbel nq
        clear hown hbel hc0 hc1
        generalize wr.drewN nq = wq at *
        go_wp2
        go_roundw
        case rel => exact ⟨k + 1, c + 1, by omega, by omega, by go_num, by go_num, HC'.out, by rw [HK.out]; exact hown2, hbel2⟩
        case measure => simp [intOf]; omega
    · have e : k = n := by omega
      have hF : T.take k = T := by rw [e, ← HT.out]; exact List.take_length
      have hcc : c = n' := by rw [HC.out, e, ← HT.out, cnt_all, ← HF.out.2, HF.out.1]
      rw [hF] at hown
      clear hF hS hS' HC
      subst hcc
      go_wp2
      go_ret2
      exact ⟨_, by simp, hown, hbel⟩

end Go.Proofs.Qxb6602261a.Nm
