/- faultsModelPaths: the walk. -/
import Derived.Test.Qxb6601217aPush
namespace Go.Proofs.Qxb6601217a.Tr
open Go.RowKit

theorem sumK_drop_le {d : Nat} (L : List (T d)) (q i : Nat) : sumK d (L.drop i) q ≤ sumK d L q := by
  have e : sumK d L q = sumK d (L.take i ++ L.drop i) q := by rw [List.take_append_drop]
  rw [e]
  unfold sumK
  rw [List.map_append, List.sum_append]
  omega
theorem quad_cell (w : World) (x y z u : Value) (t : TypeId) : (w.alloc (.cells #[x, y, z, u] t)).cell? ⟨w.heap.size, 0, none⟩ = some x ∧ (w.alloc (.cells #[x, y, z, u] t)).cell? ⟨w.heap.size, 1, none⟩ = some y ∧ (w.alloc (.cells #[x, y, z, u] t)).cell? ⟨w.heap.size, 2, none⟩ = some z := by
  refine ⟨?_, ?_, ?_⟩ <;> (unfold World.cell?; rw [heap_alloc_new]; rfl)
theorem quad_one {s p : ByteArray} {i : Int} {a : Option Addr} {n c : Nat} : ∀ u ∈ [Value.string s, .int .i64 i, .slice a n c, .string p], u.oneCell' = true := by
  intro u hu
  simp only [List.mem_cons, List.not_mem_nil, or_false] at hu
  rcases hu with rfl | rfl | rfl | rfl <;> rfl

set_option maxRecDepth 100000 in
set_option maxHeartbeats 4000000 in
theorem model_any (d : Nat) (t : T d) (x y z : Value) (p : ByteArray) (S : Nat → Prop) (w : World) (hf : Fits S w d t x y z) (htot : total d t p.size ≤ 1048576) :
    Calls Try.prog 13 #[.agg #[x, y, z], .string p] w fun e w' => ModelIs w (pathsF d t p) e w' := by
  obtain ⟨s, iv, a, n, c, rfl, rfl, rfl⟩ := hf.form
  have HM := hid (start_stack w d t p _ _ _ (.cells #[.string s, .int .i64 iv, .slice a n c] 24) (hf.move (S' := fun b => b < w.heap.size) fun b _ hl => ⟨hl, rfl⟩))
  have HTOT := hid htot
  clear hf htot
  generalize [ent d t p (.string s) (.int .i64 iv) (.slice a n c)] = St0 at *
  generalize total d t p.size = tot at *
  generalize pathsF d t p = PF at *
  go_enter Try.func13, Try.ntmps13
  go_wp2
  generalize (w.alloc (.cells #[.string s, .int .i64 iv, .slice a n c] 24)).alloc (.cells #[.string s, .int .i64 iv, .slice a n c, .string p] 56) = w1 at *
  go_loopw [5, 6, 7] (fun v5 v6 i wr => ∃ (m : Nat) (St : List Ent), i = .int .i64 m ∧ m ≤ 1048576 ∧ Hid (MSt w.heap.size w wr v5 v6 St m tot PF)) (fun _ _ i _ => 1048577 - (intOf i).toNat)
  case atStart => exact ⟨0, St0, rfl, Nat.zero_le _, HM.out⟩
  case round =>
    obtain ⟨m, St, rfl, hm, HS⟩ := hrel
    clear HM
    by_cases hne : St = []
    · subst hne
      obtain ⟨O, hI, hO, _, _, _⟩ := HS.out
      obtain ⟨a6, c6, rfl⟩ := hI.shape
      have HR : Hid (Own2 31 wr w.heap.size u5 PF ∧ Below w.heap.size w wr) := ⟨by rw [← hO]; simpa [owes] using hI.out, hI.bel⟩
      clear hI hO HS
      go_wp2
      go_ret
      exact ⟨_, rfl, HR.out.1, HR.out.2⟩
    · obtain ⟨St', d1, s1, iv1, L, p1, n1, a1, c1, g, cap, O, hp⟩ := HS.out.pop hne
      have HPP := hid hp
      obtain rfl := hp.hv
      have k0 := hp.c0
      have k1 := hp.c1
      have k2 := hp.c2
      have k3 := hp.c3
      have hcp := hp.hcap
      have hl : St'.length ≤ 1048576 := by have h1 := hp.wg; have h2 := wgts_len St'; have h3 := HTOT.out; omega
      clear hp HS hne
      have hte := total_eq d1 (mk s1 iv1 L) p1.size
      rw [nm_mk, vl_mk, ks_mk, ← join_size] at hte
      have hsj := joinL_right p1.size s1
      rw [← join_size] at hsj
      have hpj := joinL_ge p1.size s1
      rw [← join_size] at hpj
      have hn20 : n1 ≤ 1048576 := by have h := len_le (mk s1 iv1 L) p1.size; rw [ks_mk, ← HPP.out.hn] at h; have h1 := HPP.out.wg; have h3 := HTOT.out; omega
      have hpF : pathsF (d1 + 1) (mk s1 iv1 L) p1 = (if iv1 = 0 then [] else [(join p1 s1, iv1)]) ++ (if iv1 = 4 then (L.flatMap fun k => pathsF d1 k (join p1 s1 ++ dot ++ first)) ++ (L.flatMap fun k => pathsF d1 k (join p1 s1 ++ dot ++ last)) else L.flatMap fun k => pathsF d1 k (join p1 s1)) := rfl
      have HT := hid hte
      have HF := hid hpF
      have hss : s1.size ≤ 1048576 := by have h1 := HPP.out.wg; have h3 := HTOT.out; omega
      have hpp : p1.size ≤ 1048576 := by have h1 := HPP.out.wg; have h3 := HTOT.out; omega
      have hqq : (join p1 s1).size ≤ 1048576 := by have h1 := HPP.out.wg; have h3 := HTOT.out; omega
      have hm1 : m + 1 ≤ 1048576 := by have h1 := HPP.out.wg; have h3 := HTOT.out; omega
      have HN1 := hid HPP.out.hn
      have HI := hid (HPP.out.inv.alloc (Nat.le_refl _) (.cells #[.string s1, .int .i64 iv1, .slice a1 n1 c1, .string p1] 56))
      have HBW := hid ((Below.refl wr.heap.size wr).alloc (Nat.le_refl _) (.cells #[.string s1, .int .i64 iv1, .slice a1 n1 c1, .string p1] 56))
      have HQC := hid (quad_cell wr (.string s1) (.int .i64 iv1) (.slice a1 n1 c1) (.string p1) 56)
      have hOl := hid HPP.out.ol
      clear hte hpF hsj hpj
      obtain ⟨i0, hi, hi0, hi1, hi2⟩ := info_parts info31
      obtain ⟨j0, hj, hj0, hj1, hj2⟩ := info_parts info56
      go_wp2_with fail
      refine (join_any _ _ _ (by omega) (by omega)).mono ?_
      rintro e w2 ⟨rfl, rfl⟩
      generalize hjq : join p1 s1 = q at *
      clear hjq k0 k1 k2 k3
      by_cases hv0 : iv1 = 0
      · subst hv0
        have HOUT : Hid (O ++ ((L.flatMap fun k => pathsF d1 k q) ++ owes St') = PF) := by have h1 := HPP.out.out; have h2 := HF.out; rw [h2] at h1; exact h1
        have HWT : Hid (m + 1 + (wgts St' + sumK d1 L q.size) ≤ tot) := by have h1 := HPP.out.wg; have h2 := HT.out; rw [h2] at h1; unfold Hid; simp only [show (0 : Int) ≠ 4 by decide, if_false] at h1; omega
        have HPU : Hid (∃ Pk, PushIs w.heap.size w (wr.alloc (.cells #[.string s1, .int .i64 0, .slice a1 n1 c1, .string p1] 56)) u5 (.slice (some ⟨g, 0, none⟩) St'.length cap) O St' d1 L a1 q q.size n1 Pk) := ⟨[], PushIs.start _ _ HI.out (fun e he => fts_below (HPP.out.fit e he) (HBW.out.mono HPP.out.inv.bel.size)) (HPP.out.kids.below HBW.out) HPP.out.hn⟩
        have HOL : Hid (O.length ≤ m + 1) := Nat.le_succ_of_le hOl.out
        clear HPP HT HF HI HBW HQC
        go_wp2
        generalize wr.alloc (.cells #[.string s1, .int .i64 0, .slice a1 n1 c1, .string p1] 56) = wt at *
        generalize wr.heap.size = bt at *
        generalize Value.slice (some ⟨g, 0, none⟩) St'.length cap = v6 at *
        go_loopw [6, 13] (fun v6 i wr => ∃ k : Nat, k ≤ n1 ∧ i = .int .i64 ((k : Int) - 1) ∧ Hid (∃ Pk, PushIs w.heap.size w wr u5 v6 O St' d1 L a1 q q.size k Pk)) (fun _ i _ => (intOf i + 1).toNat)
        case atStart => exact ⟨n1, Nat.le_refl _, by go_num, HPU.out⟩
        case round =>
          obtain ⟨k, hk, rfl, HK⟩ := hrel
          cases k with
          | zero =>
            obtain ⟨Pk, hPk⟩ := HK.out
            have HPk := hid hPk
            clear hPk HK
            have hneg : (((0 : Nat) : Int) - 1) = -1 := rfl
            rw [hneg]
            clear hneg
            go_wp2
            go_roundw
            case rel => exact ⟨m + 1, St' ++ Pk, by go_num, by omega, ⟨O, HPk.out.inv, by rw [owes_app, HPk.out.owe]; exact HOUT.out, by have h1 := HPk.out.wgh; have h2 := HWT.out; rw [wgts_app]; simp only [List.drop_zero] at h1; omega, HOL.out, fun e he => (List.mem_append.1 he).elim (HPk.out.fs e) (HPk.out.fp e)⟩⟩
            case measure => simp [intOf]; omega
          | succ k =>
            obtain ⟨Pk, hPk⟩ := HK.out
            have hkk : (((k + 1 : Nat) : Int) - 1) = (k : Int) := by omega
            rw [hkk]
            clear hkk
            have hkL : k < L.length := by rw [← HN1.out]; omega
            obtain ⟨b, o, rfl, hS, x, y, z, hx, hy, hz, hf⟩ := hPk.kids k hkL
            obtain ⟨s2, iv2, a2, n2, c2, rfl, rfl, rfl⟩ := hf.form
            have hlen : (St' ++ Pk).length ≤ 1048576 := by
              have h1 := wgts_len (St' ++ Pk)
              have h2 := hPk.wgh
              have h3 : sumK d1 (L.drop (k + 1)) (q.size) ≤ sumK d1 L (q.size) := sumK_drop_le L _ _
              have h4 := HWT.out
              have h5 := HTOT.out
              rw [wgts_app] at h1
              omega
            have hstk := hid (hPk.inv.stk.alloc (.cells #[.string s2, .int .i64 iv2, .slice a2 n2 c2, .string (q)] 56))
            have hszr := hPk.inv.bel.size
            have HST := hid (fun (w1 : World) (g cap : Nat) => hPk.step (w1 := w1) (o := .cells #[.string s2, .int .i64 iv2, .slice a2 n2 c2, .string (q)] 56) (g := g) (cap := cap) (H := wr.heap.size + 1) (Nat.le_refl _) hkL hf (Nat.le_refl _))
            generalize L[k] = tk at *
            clear hPk HK hf hS hkL
            generalize St' ++ Pk = SP at *
            go_wp2_with (at_builtin; refine wpList_append_lies _ rfl _ _ 57 rfl w.heap.size 56 j0 (.agg #[.string ByteArray.empty, .int .i64 0, .slice none 0 0, .string ByteArray.empty]) 4 64 Try.underlying57 hj hj0 hj1 hj2 rfl (by decide) _ SP.length (cells4 SP) rfl hstk.out ⟨wr.heap.size, 0, none⟩ 1 1 [.string s2, .int .i64 iv2, .slice a2 n2 c2, .string (q)] rfl rfl (quad_new _ _ _ _ _ _) quad_one (by decide) (by unfold maxLen; omega) (by omega) (by rw [sz_alloc]; omega) (wr.heap.size + 1) (by rw [sz_alloc]) ?_)
            intro g2 cap2 w3 hown3 hgrow3 hat3 hlt3
            have HN := hid (HST.out w3 g2 cap2 hown3 hgrow3 hat3 (by first | rfl | trivial))
            clear hown3 hgrow3 hat3 hlt3 HST hstk
            go_wp2
            go_roundw
            case rel => exact ⟨k, by omega, by go_num, ⟨_, HN.out⟩⟩
            case measure => simp [intOf]
      · by_cases hv4 : iv1 = 4
        · subst hv4
          have HOUT : Hid ((O ++ [(q, 4)]) ++ ((L.flatMap fun k => pathsF d1 k (q ++ dot ++ first)) ++ ((L.flatMap fun k => pathsF d1 k (q ++ dot ++ last)) ++ owes St')) = PF) := by have h1 := HPP.out.out; have h2 := HF.out; rw [h2, if_pos rfl, if_neg hv0] at h1; unfold Hid; rw [← h1]; simp only [List.append_assoc]
          have HWT : Hid (m + 1 + (wgts St' + (sumK d1 L (q.size + 6) + sumK d1 L (q.size + 6))) ≤ tot) := by have h1 := HPP.out.wg; have h2 := HT.out; rw [h2, if_pos rfl] at h1; unfold Hid; omega
          have HOL : Hid ((O ++ [(q, 4)]).length ≤ m + 1) := by have h := hOl.out; unfold Hid; rw [List.length_append]; exact Nat.succ_le_succ h
          have hOl2 : O.length ≤ 1048576 := by have h := hOl.out; omega
          have hbt : Hid (wr.heap.size < (wr.alloc (.cells #[.string s1, .int .i64 4, .slice a1 n1 c1, .string p1] 56)).heap.size) := by unfold Hid; rw [sz_alloc]; omega
          have hn5 : Hid (u5.ownBlock ≠ some wr.heap.size) := fun e => by have := (World.ownsRow.lt HPP.out.inv.out _ e).2; omega
          have HKD := hid (HPP.out.kids.below HBW.out)
          have HFT := hid (fun e he => fts_below (HPP.out.fit e he) (HBW.out.mono HPP.out.inv.bel.size))
          have hszt : w.heap.size ≤ (wr.alloc (.cells #[.string s1, .int .i64 4, .slice a1 n1 c1, .string p1] 56)).heap.size := by have h := HPP.out.inv.bel.size; rw [sz_alloc]; omega
          have HN5 := hid HPP.out.hn
          obtain ⟨q0, q1, q2⟩ := HQC.out
          clear HPP HT HF HBW HQC
          generalize wr.alloc (.cells #[.string s1, .int .i64 4, .slice a1 n1 c1, .string p1] 56) = wt at *
          generalize wr.heap.size = bt at *
          generalize Value.slice (some ⟨g, 0, none⟩) St'.length cap = v6 at *
          go_wp2_with (at_builtin; refine wpList_append_lies _ rfl _ _ 25 rfl w.heap.size 31 i0 (.agg #[.string ByteArray.empty, .int .i64 0]) 2 24 Try.underlying25 hi hi0 hi1 hi2 rfl (by decide) _ O.length (prs O) rfl (HI.out.out.alloc _) ⟨wt.heap.size, 0, none⟩ 1 1 [.string q, .int .i64 4] rfl rfl (pair_new _ _ _ _) (prs_one [(q, 4)]) (by decide) (by unfold maxLen; omega) (by omega) (by rw [sz_alloc]; omega) (wt.heap.size + 1) (by rw [sz_alloc]) ?_)
          intro g5 cap5 w5 hown5 hgrow5 hat5 hlt5
          have hI5 := (HI.out.alloc (Nat.le_refl _) _).give (Nat.le_refl _) hown5 hgrow5 hat5 (by rw [sz_alloc]; omega)
          have hb5 : Below w.heap.size wt w5 := ((Below.refl _ _).alloc hszt _).trans ((Below.refl _ _).grown hgrow5 (by rw [sz_alloc]; omega) fun j hj => (World.ownsRow.lt HI.out.out j hj).1)
          have e5 : w5.heap[bt]? = wt.heap[bt]? := (hgrow5.block bt (by have := hbt.out; rw [sz_alloc]; omega) (fun e => hn5.out e.symm)).trans (Below.heap_alloc _ _ _ hbt.out)
          have r0 : w5.cell? ⟨bt, 0, none⟩ = some (.string s1) := by rw [← q0]; simp only [World.cell?, e5]
          have r1 : w5.cell? ⟨bt, 1, none⟩ = some (.int .i64 4) := by rw [← q1]; simp only [World.cell?, e5]
          have r2 : w5.cell? ⟨bt, 2, none⟩ = some (.slice a1 n1 c1) := by rw [← q2]; simp only [World.cell?, e5]
          have HSTART := hid (fun (pre : ByteArray) (mx : Nat) => PushIs.start pre mx hI5 (fun e he => fts_below (HFT.out e he) hb5) (HKD.out.move fun b hs _ => ⟨hs, hb5.block b hs⟩) HN5.out)
          clear hown5 hgrow5 hat5 hlt5 hI5 hb5 e5 q0 q1 q2 HFT HKD HI
          generalize Value.slice (some ⟨g5, 0, none⟩) (O.length + 1) cap5 = v5 at *
          generalize O ++ [(q, 4)] = O5 at *
          go_wp2
          go_loopw [6, 11] (fun v6 i wr => ∃ k : Nat, k ≤ n1 ∧ i = .int .i64 ((k : Int) - 1) ∧ Hid (∃ Pk, PushIs w.heap.size w wr v5 v6 O5 St' d1 L a1 (q ++ ⟨#[46, 108, 97, 115, 116]⟩) (q.size + 6) k Pk)) (fun _ i _ => (intOf i + 1).toNat)
          case atStart => exact ⟨n1, Nat.le_refl _, by go_num, ⟨[], HSTART.out _ _⟩⟩
          case round =>
            obtain ⟨k, hk, rfl, HK⟩ := hrel
            cases k with
            | zero =>
              obtain ⟨Pk, hPk⟩ := HK.out
              have HPk := hid hPk
              clear hPk HK
              have hneg : (((0 : Nat) : Int) - 1) = -1 := rfl
              rw [hneg]
              clear hneg
              obtain ⟨Pk1, hPk1⟩ : ∃ Pk1, Pk1 = Pk := ⟨_, rfl⟩
              rw [← hPk1] at HPk
              clear hPk1
              have HP1 := HPk
              clear HPk
              have HW2 : Hid (wgts (St' ++ Pk1) + sumK d1 L (q.size + 6) ≤ tot) := by have h1 := HP1.out.wgh; have h2 := HWT.out; unfold Hid; rw [wgts_app]; simp only [List.drop_zero] at h1; omega
              go_wp2
              go_loopw [6, 12] (fun v6 i wr => ∃ k : Nat, k ≤ n1 ∧ i = .int .i64 ((k : Int) - 1) ∧ Hid (∃ Pk, PushIs w.heap.size w wr v5 v6 O5 (St' ++ Pk1) d1 L a1 (q ++ ⟨#[46, 102, 105, 114, 115, 116]⟩) (q.size + 6) k Pk)) (fun _ i _ => (intOf i + 1).toNat)
              case atStart => exact ⟨n1, Nat.le_refl _, by go_num, ⟨[], PushIs.start _ _ HP1.out.inv (fun e he => (List.mem_append.1 he).elim (HP1.out.fs e) (HP1.out.fp e)) HP1.out.kids HN5.out⟩⟩
              case round =>
                obtain ⟨k, hk, rfl, HK⟩ := hrel
                cases k with
                | zero =>
                  obtain ⟨Pk, hPk⟩ := HK.out
                  have HPk := hid hPk
                  clear hPk HK
                  have hneg : (((0 : Nat) : Int) - 1) = -1 := rfl
                  rw [hneg]
                  clear hneg
                  go_wp2
                  go_roundw
                  case rel => exact ⟨m + 1, St' ++ Pk1 ++ Pk, by go_num, by omega, ⟨O5, HPk.out.inv, by rw [owes_app, owes_app, HPk.out.owe, HP1.out.owe, first_eq, last_eq]; exact HOUT.out, by have h1 := HPk.out.wgh; have h2 := HWT.out; have h3 := HP1.out.wgh; rw [wgts_app, wgts_app]; simp only [List.drop_zero] at h1 h3; omega, HOL.out, fun e he => (List.mem_append.1 he).elim (HPk.out.fs e) (HPk.out.fp e)⟩⟩
                  case measure => simp [intOf]; omega
                | succ k =>
                  obtain ⟨Pk, hPk⟩ := HK.out
                  have hkk : (((k + 1 : Nat) : Int) - 1) = (k : Int) := by omega
                  rw [hkk]
                  clear hkk
                  have hkL : k < L.length := by rw [← HN1.out]; omega
                  obtain ⟨b, o, rfl, hS, x, y, z, hx, hy, hz, hf⟩ := hPk.kids k hkL
                  obtain ⟨s2, iv2, a2, n2, c2, rfl, rfl, rfl⟩ := hf.form
                  have hlen : ((St' ++ Pk1) ++ Pk).length ≤ 1048576 := by
                    have h1 := wgts_len ((St' ++ Pk1) ++ Pk)
                    have h2 := hPk.wgh
                    have h3 : sumK d1 (L.drop (k + 1)) ((q.size + 6)) ≤ sumK d1 L ((q.size + 6)) := sumK_drop_le L _ _
                    have h4 := HW2.out
                    have h5 := HTOT.out
                    rw [wgts_app] at h1
                    omega
                  have hstk := hid (hPk.inv.stk.alloc (.cells #[.string s2, .int .i64 iv2, .slice a2 n2 c2, .string ((q ++ ⟨#[46, 102, 105, 114, 115, 116]⟩))] 56))
                  have hszr := hPk.inv.bel.size
                  have HST := hid (fun (w1 : World) (g cap : Nat) => hPk.step (w1 := w1) (o := .cells #[.string s2, .int .i64 iv2, .slice a2 n2 c2, .string ((q ++ ⟨#[46, 102, 105, 114, 115, 116]⟩))] 56) (g := g) (cap := cap) (H := wr.heap.size + 1) (Nat.le_refl _) hkL hf (by rw [first_eq, first_size]; omega))
                  generalize L[k] = tk at *
                  clear hPk HK hf hS hkL
                  generalize (St' ++ Pk1) ++ Pk = SP at *
                  go_wp2_with (at_builtin; refine wpList_append_lies _ rfl _ _ 57 rfl w.heap.size 56 j0 (.agg #[.string ByteArray.empty, .int .i64 0, .slice none 0 0, .string ByteArray.empty]) 4 64 Try.underlying57 hj hj0 hj1 hj2 rfl (by decide) _ SP.length (cells4 SP) rfl hstk.out ⟨wr.heap.size, 0, none⟩ 1 1 [.string s2, .int .i64 iv2, .slice a2 n2 c2, .string ((q ++ ⟨#[46, 102, 105, 114, 115, 116]⟩))] rfl rfl (quad_new _ _ _ _ _ _) quad_one (by decide) (by unfold maxLen; omega) (by omega) (by rw [sz_alloc]; omega) (wr.heap.size + 1) (by rw [sz_alloc]) ?_)
                  intro g2 cap2 w3 hown3 hgrow3 hat3 hlt3
                  have HN := hid (HST.out w3 g2 cap2 hown3 hgrow3 hat3 (by first | rfl | trivial))
                  clear hown3 hgrow3 hat3 hlt3 HST hstk
                  go_wp2
                  go_roundw
                  case rel => exact ⟨k, by omega, by go_num, ⟨_, HN.out⟩⟩
                  case measure => simp [intOf]
            | succ k =>
              obtain ⟨Pk, hPk⟩ := HK.out
              have hkk : (((k + 1 : Nat) : Int) - 1) = (k : Int) := by omega
              rw [hkk]
              clear hkk
              have hkL : k < L.length := by rw [← HN1.out]; omega
              obtain ⟨b, o, rfl, hS, x, y, z, hx, hy, hz, hf⟩ := hPk.kids k hkL
              obtain ⟨s2, iv2, a2, n2, c2, rfl, rfl, rfl⟩ := hf.form
              have hlen : (St' ++ Pk).length ≤ 1048576 := by
                have h1 := wgts_len (St' ++ Pk)
                have h2 := hPk.wgh
                have h3 : sumK d1 (L.drop (k + 1)) ((q.size + 6)) ≤ sumK d1 L ((q.size + 6)) := sumK_drop_le L _ _
                have h4 := HWT.out
                have h5 := HTOT.out
                rw [wgts_app] at h1
                omega
              have hstk := hid (hPk.inv.stk.alloc (.cells #[.string s2, .int .i64 iv2, .slice a2 n2 c2, .string ((q ++ ⟨#[46, 108, 97, 115, 116]⟩))] 56))
              have hszr := hPk.inv.bel.size
              have HST := hid (fun (w1 : World) (g cap : Nat) => hPk.step (w1 := w1) (o := .cells #[.string s2, .int .i64 iv2, .slice a2 n2 c2, .string ((q ++ ⟨#[46, 108, 97, 115, 116]⟩))] 56) (g := g) (cap := cap) (H := wr.heap.size + 1) (Nat.le_refl _) hkL hf (by rw [last_eq, last_size]; omega))
              generalize L[k] = tk at *
              clear hPk HK hf hS hkL
              generalize St' ++ Pk = SP at *
              go_wp2_with (at_builtin; refine wpList_append_lies _ rfl _ _ 57 rfl w.heap.size 56 j0 (.agg #[.string ByteArray.empty, .int .i64 0, .slice none 0 0, .string ByteArray.empty]) 4 64 Try.underlying57 hj hj0 hj1 hj2 rfl (by decide) _ SP.length (cells4 SP) rfl hstk.out ⟨wr.heap.size, 0, none⟩ 1 1 [.string s2, .int .i64 iv2, .slice a2 n2 c2, .string ((q ++ ⟨#[46, 108, 97, 115, 116]⟩))] rfl rfl (quad_new _ _ _ _ _ _) quad_one (by decide) (by unfold maxLen; omega) (by omega) (by rw [sz_alloc]; omega) (wr.heap.size + 1) (by rw [sz_alloc]) ?_)
              intro g2 cap2 w3 hown3 hgrow3 hat3 hlt3
              have HN := hid (HST.out w3 g2 cap2 hown3 hgrow3 hat3 (by first | rfl | trivial))
              clear hown3 hgrow3 hat3 hlt3 HST hstk
              go_wp2
              go_roundw
              case rel => exact ⟨k, by omega, by go_num, ⟨_, HN.out⟩⟩
              case measure => simp [intOf]
        · have HOUT : Hid ((O ++ [(q, iv1)]) ++ ((L.flatMap fun k => pathsF d1 k q) ++ owes St') = PF) := by have h1 := HPP.out.out; have h2 := HF.out; rw [h2, if_neg hv4, if_neg hv0] at h1; unfold Hid; rw [← h1]; simp only [List.append_assoc]
          have HWT : Hid (m + 1 + (wgts St' + sumK d1 L q.size) ≤ tot) := by have h1 := HPP.out.wg; have h2 := HT.out; rw [h2, if_neg hv4] at h1; unfold Hid; omega
          have hg0 : (iv1 == 0) = false := beq_false_of_ne hv0
          have hg4 : (iv1 == 4) = false := beq_false_of_ne hv4
          have hg5 : (iv1 != 0) = true := by simp [bne, hg0]
          have hg6 : (iv1 != 4) = true := by simp [bne, hg4]
          have HOL : Hid ((O ++ [(q, iv1)]).length ≤ m + 1) := by have h := hOl.out; unfold Hid; rw [List.length_append]; exact Nat.succ_le_succ h
          have hOl2 : O.length ≤ 1048576 := by have h := hOl.out; omega
          have hbt : Hid (wr.heap.size < (wr.alloc (.cells #[.string s1, .int .i64 iv1, .slice a1 n1 c1, .string p1] 56)).heap.size) := by unfold Hid; rw [sz_alloc]; omega
          have hn5 : Hid (u5.ownBlock ≠ some wr.heap.size) := fun e => by have := (World.ownsRow.lt HPP.out.inv.out _ e).2; omega
          have HKD := hid (HPP.out.kids.below HBW.out)
          have HFT := hid (fun e he => fts_below (HPP.out.fit e he) (HBW.out.mono HPP.out.inv.bel.size))
          have hszt : w.heap.size ≤ (wr.alloc (.cells #[.string s1, .int .i64 iv1, .slice a1 n1 c1, .string p1] 56)).heap.size := by have h := HPP.out.inv.bel.size; rw [sz_alloc]; omega
          have HN5 := hid HPP.out.hn
          obtain ⟨q0, q1, q2⟩ := HQC.out
          clear HPP HT HF HBW HQC
          generalize wr.alloc (.cells #[.string s1, .int .i64 iv1, .slice a1 n1 c1, .string p1] 56) = wt at *
          generalize wr.heap.size = bt at *
          generalize Value.slice (some ⟨g, 0, none⟩) St'.length cap = v6 at *
          go_wp2_with (at_builtin; refine wpList_append_lies _ rfl _ _ 25 rfl w.heap.size 31 i0 (.agg #[.string ByteArray.empty, .int .i64 0]) 2 24 Try.underlying25 hi hi0 hi1 hi2 rfl (by decide) _ O.length (prs O) rfl (HI.out.out.alloc _) ⟨wt.heap.size, 0, none⟩ 1 1 [.string q, .int .i64 iv1] rfl rfl (pair_new _ _ _ _) (prs_one [(q, iv1)]) (by decide) (by unfold maxLen; omega) (by omega) (by rw [sz_alloc]; omega) (wt.heap.size + 1) (by rw [sz_alloc]) ?_)
          intro g5 cap5 w5 hown5 hgrow5 hat5 hlt5
          have hI5 := (HI.out.alloc (Nat.le_refl _) _).give (Nat.le_refl _) hown5 hgrow5 hat5 (by rw [sz_alloc]; omega)
          have hb5 : Below w.heap.size wt w5 := ((Below.refl _ _).alloc hszt _).trans ((Below.refl _ _).grown hgrow5 (by rw [sz_alloc]; omega) fun j hj => (World.ownsRow.lt HI.out.out j hj).1)
          have e5 : w5.heap[bt]? = wt.heap[bt]? := (hgrow5.block bt (by have := hbt.out; rw [sz_alloc]; omega) (fun e => hn5.out e.symm)).trans (Below.heap_alloc _ _ _ hbt.out)
          have r0 : w5.cell? ⟨bt, 0, none⟩ = some (.string s1) := by rw [← q0]; simp only [World.cell?, e5]
          have r1 : w5.cell? ⟨bt, 1, none⟩ = some (.int .i64 iv1) := by rw [← q1]; simp only [World.cell?, e5]
          have r2 : w5.cell? ⟨bt, 2, none⟩ = some (.slice a1 n1 c1) := by rw [← q2]; simp only [World.cell?, e5]
          have HSTART := hid (fun (pre : ByteArray) (mx : Nat) => PushIs.start pre mx hI5 (fun e he => fts_below (HFT.out e he) hb5) (HKD.out.move fun b hs _ => ⟨hs, hb5.block b hs⟩) HN5.out)
          clear hown5 hgrow5 hat5 hlt5 hI5 hb5 e5 q0 q1 q2 HFT HKD HI
          generalize Value.slice (some ⟨g5, 0, none⟩) (O.length + 1) cap5 = v5 at *
          generalize O ++ [(q, iv1)] = O5 at *
          go_wp2
          go_loopw [6, 13] (fun v6 i wr => ∃ k : Nat, k ≤ n1 ∧ i = .int .i64 ((k : Int) - 1) ∧ Hid (∃ Pk, PushIs w.heap.size w wr v5 v6 O5 St' d1 L a1 q q.size k Pk)) (fun _ i _ => (intOf i + 1).toNat)
          case atStart => exact ⟨n1, Nat.le_refl _, by go_num, ⟨[], HSTART.out q q.size⟩⟩
          case round =>
            obtain ⟨k, hk, rfl, HK⟩ := hrel
            cases k with
            | zero =>
              obtain ⟨Pk, hPk⟩ := HK.out
              have HPk := hid hPk
              clear hPk HK
              have hneg : (((0 : Nat) : Int) - 1) = -1 := rfl
              rw [hneg]
              clear hneg
              go_wp2
              go_roundw
              case rel => exact ⟨m + 1, St' ++ Pk, by go_num, by omega, ⟨O5, HPk.out.inv, by rw [owes_app, HPk.out.owe]; exact HOUT.out, by have h1 := HPk.out.wgh; have h2 := HWT.out; rw [wgts_app]; simp only [List.drop_zero] at h1; omega, HOL.out, fun e he => (List.mem_append.1 he).elim (HPk.out.fs e) (HPk.out.fp e)⟩⟩
              case measure => simp [intOf]; omega
            | succ k =>
              obtain ⟨Pk, hPk⟩ := HK.out
              have hkk : (((k + 1 : Nat) : Int) - 1) = (k : Int) := by omega
              rw [hkk]
              clear hkk
              have hkL : k < L.length := by rw [← HN1.out]; omega
              obtain ⟨b, o, rfl, hS, x, y, z, hx, hy, hz, hf⟩ := hPk.kids k hkL
              obtain ⟨s2, iv2, a2, n2, c2, rfl, rfl, rfl⟩ := hf.form
              have hlen : (St' ++ Pk).length ≤ 1048576 := by
                have h1 := wgts_len (St' ++ Pk)
                have h2 := hPk.wgh
                have h3 : sumK d1 (L.drop (k + 1)) (q.size) ≤ sumK d1 L (q.size) := sumK_drop_le L _ _
                have h4 := HWT.out
                have h5 := HTOT.out
                rw [wgts_app] at h1
                omega
              have hstk := hid (hPk.inv.stk.alloc (.cells #[.string s2, .int .i64 iv2, .slice a2 n2 c2, .string (q)] 56))
              have hszr := hPk.inv.bel.size
              have HST := hid (fun (w1 : World) (g cap : Nat) => hPk.step (w1 := w1) (o := .cells #[.string s2, .int .i64 iv2, .slice a2 n2 c2, .string (q)] 56) (g := g) (cap := cap) (H := wr.heap.size + 1) (Nat.le_refl _) hkL hf (Nat.le_refl _))
              generalize L[k] = tk at *
              clear hPk HK hf hS hkL
              generalize St' ++ Pk = SP at *
              go_wp2_with (at_builtin; refine wpList_append_lies _ rfl _ _ 57 rfl w.heap.size 56 j0 (.agg #[.string ByteArray.empty, .int .i64 0, .slice none 0 0, .string ByteArray.empty]) 4 64 Try.underlying57 hj hj0 hj1 hj2 rfl (by decide) _ SP.length (cells4 SP) rfl hstk.out ⟨wr.heap.size, 0, none⟩ 1 1 [.string s2, .int .i64 iv2, .slice a2 n2 c2, .string (q)] rfl rfl (quad_new _ _ _ _ _ _) quad_one (by decide) (by unfold maxLen; omega) (by omega) (by rw [sz_alloc]; omega) (wr.heap.size + 1) (by rw [sz_alloc]) ?_)
              intro g2 cap2 w3 hown3 hgrow3 hat3 hlt3
              have HN := hid (HST.out w3 g2 cap2 hown3 hgrow3 hat3 (by first | rfl | trivial))
              clear hown3 hgrow3 hat3 hlt3 HST hstk
              go_wp2
              go_roundw
              case rel => exact ⟨k, by omega, by go_num, ⟨_, HN.out⟩⟩
              case measure => simp [intOf]
end Go.Proofs.Qxb6601217a.Tr
