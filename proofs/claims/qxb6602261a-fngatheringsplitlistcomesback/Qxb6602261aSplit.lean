/- The walk of FnGatheringSplitListComesBack. -/
import Derived.Test.Qxb6602261aSGuard
import Derived.Test.Qxb6602261aAnswer
namespace Go.Proofs.Qxb6602261a.Nm
open Go.RowKit

set_option maxHeartbeats 8000000 in
set_option maxRecDepth 100000 in
/-- FnGatheringSplitListComesBack returns true. -/
theorem split_any (gen generation most : Int) (op : Bool) (a a' : Option Addr) (n cap n' cap' : Nat) (G : List ByteArray) (A : Nat → Option Addr) (K C : Nat → Nat) (P : Nat → List ByteArray) (w : World) (hG : G.length = n) (hS : StrsAt w a n (get G)) (hP : PAt w a' n' A K C P)
    (hn : n ≤ maxLen) (hn' : n' ≤ maxLen) (hz : a = none → n = 0 ∧ cap = 0) :
    Calls Try.prog 10 #[.int .u64 gen, .slice a n cap, .bool op, .int .u64 generation, .slice a' n' cap', .int .i64 most] w fun e w' => e = .returned (.bool true) ∧ Below w.heap.size w w' := by
  have H0 : Hid (G.length = n ∧ StrsAt w a n (get G) ∧ PAt w a' n' A K C P ∧ n ≤ maxLen ∧ n' ≤ maxLen ∧ (a = none → n = 0 ∧ cap = 0)) := ⟨hG, hS, hP, hn, hn', hz⟩
  have hmx := hn'
  unfold maxLen at hmx
  clear hG hS hP hn hn' hz
  have hneq := neq_nil_nil
  have hnn := eql_nil none 0 0 true rfl
  go_enter Try.func10, Try.ntmps10
  go_wp2_with fail
  refine (bytes33_any _ _ _ _ _ _ _ _ _ _ _ _ _ _ _ _ H0.out.2.1 H0.out.2.2.1 H0.out.2.2.2.1 H0.out.2.2.2.2.1).mono ?_
  rintro e w ⟨⟨bb, rfl⟩, rfl⟩
  cases bb
  · go_wp2_with fail
    go_ret
    exact ⟨rfl, Below.refl _ _⟩
  go_wp2_with fail
  refine (size_any _ _ _ _ _ H0.out.2.1 H0.out.2.2.2.1).mono ?_
  rintro e w ⟨z1, rfl, hz1, rfl⟩
  go_wp2_with fail
  refine (sizeParts_any _ _ _ _ _ _ _ _ H0.out.2.2.1 H0.out.2.2.2.2.1).mono ?_
  rintro e w ⟨z2, rfl, hz2, rfl⟩
  obtain ⟨p1, p2, p3⟩ := hz1
  obtain ⟨q1, q2, q3⟩ := hz2
  by_cases hsum : z1 + z2 ≤ 1048576
  case neg =>
    go_wp2_with fail
    go_ret
    exact ⟨rfl, Below.refl _ _⟩
  have hn : n ≤ 65536 := p3 (by omega)
  have hn' : n' ≤ 65536 := (q3 (by omega)).1
  have HTot : Hid (tot K n' ≤ 65536) := by
    have := (q3 (by omega)).2
    show tot K n' ≤ 65536
    omega
  clear p3 q3 hmx
  by_cases h1 : 1 ≤ n'
  case neg =>
    go_wp2_with fail
    go_ret
    exact ⟨rfl, Below.refl _ _⟩
  go_wp2_with fail
  go_loopw [13] (fun i wr => ∃ k : Nat, k + 1 ≤ n' ∧ i = .int .i64 k ∧ Hid (∀ j, j < k → 0 < K j ∧ (get (P j) (K j - 1)).toList.isEmpty = false) ∧ Hid (Drew w wr)) (fun i _ => n' - (intOf i).toNat)
  case atStart => exact ⟨0, h1, rfl, fun j hj => by omega, Drew.refl _⟩
  case round =>
    obtain ⟨k, hk, rfl, HU, HD⟩ := hrel
    by_cases hlt : k + 1 < n'
    · obtain ⟨b, o, rfl, hc⟩ := (H0.out.2.2.1.drew HD.out).cell k (by omega)
      obtain ⟨hlp, hsp, hkp, _⟩ := (H0.out.2.2.1.drew HD.out).strs k (by omega)
      have hki : (k : Int) < (n' : Int) := by omega
      have hKk : K k ≤ 65536 := Nat.le_trans (by have := tot_ge K (show k < n' by omega); omega) HTot.out
      by_cases h0 : K k = 0
      · rw [h0] at hc
        clear hsp
        go_wp2_with fail
        go_big_quiet (fail)
        go_wp2
        go_ret
        exact ⟨rfl, (HD.out.drewN _).below _⟩
      · obtain ⟨m, hm⟩ : ∃ m, K k = m + 1 := ⟨K k - 1, by omega⟩
        rw [hm] at hc hsp hKk
        obtain ⟨b1, o1, ha1, _, hcl⟩ := hsp.split (by omega)
        rw [ha1] at hc
        have hc1 := hcl m (by omega)
        have hwr : IntKind.i64.wrap (m : Int) = m := by rw [IntKind.wrap_i64]; omega
        have hl0 : ((m : Int) + 1 == 0) = false := by simp; omega
        have hl2 : (m : Int) < (m : Int) + 1 := by omega
        have HM : Hid (K k = m + 1) := hm
        have HL : Hid (get (P k) m = get (P k) (K k - 1)) := by rw [hm]; rfl
        clear hsp hcl ha1 h0 hm hlp hkp
        cases hem : (get (P k) m).toList.isEmpty
        · have HU' : Hid (∀ j, j < k + 1 → 0 < K j ∧ (get (P j) (K j - 1)).toList.isEmpty = false) := by
            intro j hj
            by_cases e : j = k
            · subst e
              exact ⟨by rw [HM.out]; omega, by rw [← HL.out]; exact hem⟩
            · exact HU.out j (by omega)
          generalize get (P k) m = s at hc1 hem
          clear HL HU
          go_wp2_with fail
          go_big_quiet (fail)
          go_wp2
          go_roundw
          case rel => exact ⟨k + 1, by omega, by go_num, HU'.out, HD.out.drewN _⟩
          case measure => simp [intOf]; omega
        · generalize get (P k) m = s at hc1 hem
          go_wp2_with fail
          go_big_quiet (fail)
          go_wp2
          go_ret
          exact ⟨rfl, (HD.out.drewN _).below _⟩
    · have HS2 : Hid (StrsAt wr a n (get G) ∧ PAt wr a' n' A K C P ∧ Below w.heap.size w wr) := ⟨H0.out.2.1.drew HD.out, H0.out.2.2.1.drew HD.out, HD.out.below _⟩
      have HNE : Hid (∀ j, j + 1 < n' → 0 < K j ∧ (get (P j) (K j - 1)).toList.isEmpty = false) := fun j hj => HU.out j (by omega)
      have HKB : Hid (∀ i, i < n' → K i ≤ 65536) := fun i hi => Nat.le_trans (by have := tot_ge K hi; omega) HTot.out
      have HKL : Hid (∀ i, i < n' → (P i).length = K i) := fun i hi => (H0.out.2.2.1.strs i hi).1
      obtain ⟨b', o', ha', _⟩ := H0.out.2.2.1.cell 0 h1
      subst ha'
      clear HU HD
      go_wp2_with fail
      refine (clone_any _ _ _ _ _ HS2.out.1 hn H0.out.2.2.2.2.2).mono ?_
      rintro e w3 ⟨a3, c3, rfl, hs3, hc3, hz3, hbel3⟩
      have HS3 : Hid (StrsAt w3 a3 n (get G) ∧ PAt w3 (some ⟨b', o', none⟩) n' A K C P ∧ (a3 = none → n = 0 ∧ c3 = 0) ∧ Below w.heap.size w w3) :=
        ⟨hs3, HS2.out.2.1.below hbel3, hz3, HS2.out.2.2.trans (hbel3.mono HS2.out.2.2.size)⟩
      clear hs3 hc3 hz3 hbel3 HS2
      go_wp2_with fail
      refine (cloneParts_any _ _ _ _ _ _ _ _ HS3.out.2.1 hn' HKB.out).mono ?_
      rintro e w4 ⟨A', C', rfl, hp4, hbel4⟩
      obtain ⟨pb, hpb⟩ : ∃ pb, w3.heap.size = pb := ⟨_, rfl⟩
      rw [hpb] at hp4
      rw [hpb]
      have HS4 : Hid (StrsAt w4 a3 n (get G) ∧ PAt w4 (some ⟨pb, 0, none⟩) n' A' K C' P ∧ (a3 = none → n = 0 ∧ c3 = 0) ∧ Below w.heap.size w w4) :=
        ⟨HS3.out.1.below hbel4, hp4, HS3.out.2.2.1, HS3.out.2.2.2.trans (hbel4.mono HS3.out.2.2.2.size)⟩
      clear hp4 hbel4 HS3 hpb
      go_wp2_with fail
      refine (clone_own _ _ _ G _ H0.out.1 HS4.out.1 hn HS4.out.2.2.1).mono ?_
      rintro e w5 ⟨a5, c5, rfl, hown5, hbel5⟩
      go_wp2_with fail
      refine (new_any _ _ _ _ _ _).mono ?_
      rintro e w6 ⟨rfl, hw6⟩
      have hg6 : GB w6 w5.heap.size (.int .u64 gen) (.slice a5 n c5) (.bool op) := by rw [← hw6]; exact heap_alloc_new w5 _
      have hown6 : Own w6 w4.heap.size (.slice a5 n c5) G := by rw [← hw6]; exact hown5.alloc _
      have hs5 := hbel5.size
      have hbel6 : Below w4.heap.size w4 w6 := by rw [← hw6]; exact hbel5.alloc hs5 _
      obtain ⟨gb, hgb⟩ : ∃ gb, w5.heap.size = gb := ⟨_, rfl⟩
      rw [hgb] at hg6 hs5
      rw [hgb]
      have HS6 : Hid (GB w6 gb (.int .u64 gen) (.slice a5 n c5) (.bool op) ∧ Own w6 w4.heap.size (.slice a5 n c5) G ∧ Below w4.heap.size w4 w6) := ⟨hg6, hown6, hbel6⟩
      have HGB : Hid (w4.heap.size ≤ gb) := hs5
      clear hw6 hgb hown5 hbel5 hg6 hown6 hbel6 hs5
      go_wp2_with fail
      go_loopw [15, 16, 17] (fun s t i wr => ∃ (k : Nat) (after : ByteArray) (gen1 : Int) (v : Value) (F : List ByteArray) (op1 : Bool), k + 1 ≤ n' ∧ i = .int .i64 k ∧ t = .int .i64 (tot K k) ∧ s = .string after ∧
          Hid (GB wr gb (.int .u64 gen1) v (.bool op1) ∧ Own wr w4.heap.size v F ∧ Below w4.heap.size w4 wr ∧ SInv P K most generation k gen1 F op1 after ∧ F.length ≤ 65536)) (fun _ _ i _ => n' - (intOf i).toNat)
      case atStart => exact ⟨0, ⟨#[]⟩, gen, .slice a5 n c5, G, op, h1, rfl, rfl, rfl, HS6.out.1, HS6.out.2.1, HS6.out.2.2, .inl ⟨rfl, by rw [Lib.toList_data]; rfl⟩, by rw [H0.out.1]; exact hn⟩
      case round =>
        clear HS6
        obtain ⟨q, after, gen1, v, F, op1, hq, rfl, rfl, rfl, HI⟩ := hrel
        have hqn : q < n' := by omega
        obtain ⟨open1, F1, r, ht, hr, hopen⟩ := step_turn HKL.out hqn HI.out.2.2.2.1 v
        have HTu : Hid (Turn gen1 generation F (P q) op1 after v open1 F1 generation r ∧ (∀ k, r = some k → v.ownBlock = some k) ∧ ((open1 = true ∧ F1 = cat P (q + 1)) ∨ (open1 = false ∧ most < (tot K (q + 1) : Int) ∧ F1.length ≤ tot K (q + 1)))) := ⟨ht, hr, hopen⟩
        clear ht hr hopen
        have htq : tot K q + K q ≤ 65536 := Nat.le_trans (tot_ge K hqn) HTot.out
        have HT1 : Hid (tot K (q + 1) = tot K q + K q) := rfl
        obtain ⟨b1, o1, hbo, hc⟩ := (HS4.out.2.1.below HI.out.2.2.1).cell q hqn
        obtain ⟨rfl, rfl⟩ : pb = b1 ∧ 0 = o1 := by simpa using hbo
        rw [Nat.zero_add] at hc
        have HPq : Hid ((P q).length = K q ∧ StrsAt wr (A' q) (K q) (get (P q)) ∧ K q ≤ maxLen ∧ (A' q = none → K q = 0 ∧ C' q = 0)) := (HS4.out.2.1.below HI.out.2.2.1).strs q hqn
        by_cases hlt : q + 1 < n'
        · obtain ⟨m, hm⟩ : ∃ m, K q = m + 1 := ⟨K q - 1, by have := (HNE.out q hlt).1; omega⟩
          have HM : Hid (K q = m + 1 ∧ (get (P q) m).toList.isEmpty = false ∧ get (P q) m = get (P q) (K q - 1)) := by
            refine ⟨hm, ?_, by rw [hm]; rfl⟩
            have := (HNE.out q hlt).2
            rw [hm] at this
            exact this
          have hkq := HKB.out q hqn
          rw [hm] at hc hkq htq
          have hki : (q : Int) < (n' : Int) := by omega
          go_wp2_with fail
          refine (zzadd_any gb w4.heap.size gen1 generation v F op1 true after (A' q) (m + 1) (C' q) (P q) most _ HI.out.1 HI.out.2.1 HI.out.2.2.1.size open1 F1 generation r HTu.out.1 (by rw [HPq.out.1, hm]) (by have := HPq.out.2.1; rw [hm] at this; exact this) hkq (by have := HPq.out.2.2.2; rw [hm] at this; exact this) (by have := HI.out.2.2.2.2; omega)).mono ?_
          rintro e w2 ⟨v2, hA2, _⟩
          have hok : okOf open1 true most F1.length = false := by simp [okOf]
          have he2 : e = .returned (.tuple #[.slice none 0 0, .bool false]) := by rw [hA2.he, hok]; rfl
          have HI2 : Hid (GB w2 gb (.int .u64 generation) v2 (.bool (opOf open1 true most F1.length)) ∧ Own w2 w4.heap.size v2 F1 ∧ Below w4.heap.size w4 w2 ∧ SInv P K most generation (q + 1) generation F1 (opOf open1 true most F1.length) (get (P q) m) ∧ F1.length ≤ 65536) := by
            refine ⟨hA2.hg, hA2.own, Keep.below HI.out.2.2.1 (Nat.le_refl _) hA2.keep HGB.out (fun k hk => (World.ownsRow.lt HI.out.2.1 k (HTu.out.2.1 k hk)).1), ?_, ?_⟩
            · rw [HM.out.2.2]
              exact step_inv HKL.out hqn (by rw [hm]; omega) (HNE.out q hlt).2 HTu.out.2.2
            · exact Nat.le_trans (step_len HKL.out hqn HTu.out.2.2) HTot.out
          subst he2
          obtain ⟨b2, o2, hbo2, hd⟩ := (HS4.out.2.1.below HI2.out.2.2.1).cell q hqn
          obtain ⟨rfl, rfl⟩ : pb = b2 ∧ 0 = o2 := by simpa using hbo2
          rw [Nat.zero_add, hm] at hd
          obtain ⟨_, hsp, _, _⟩ := (HS4.out.2.1.below HI2.out.2.2.1).strs q hqn
          rw [hm] at hsp
          obtain ⟨b3, o3, ha3, _, hcl⟩ := hsp.split (by omega)
          rw [ha3] at hd
          have hc1 := hcl m (by omega)
          have hwr : IntKind.i64.wrap (m : Int) = m := by rw [IntKind.wrap_i64]; omega
          have hl2 : (m : Int) < (m : Int) + 1 := by omega
          generalize tot K q = tq at *
          clear hA2 hok hsp hcl ha3 hbo hbo2 hc HI HTu hm
          go_wp2_with fail
          go_big_quiet (fail)
          go_wp2
          go_roundw
          case rel =>
            refine ⟨q + 1, get (P q) m, generation, v2, F1, opOf open1 true most F1.length, by omega, by go_num, ?_, rfl, HI2.out.1, HI2.out.2.1, below_drewN HI2.out.2.2.1 _, HI2.out.2.2.2.1, HI2.out.2.2.2.2⟩
            rw [HT1.out, HM.out.1]
            go_num
          case measure => simp [intOf]; omega
        · have e : n' = q + 1 := by omega
          subst e
          obtain ⟨hk1, hk2⟩ := last_ok HKL.out rfl HTu.out.2.2
          have hkq := HKB.out q hqn
          obtain ⟨kq, hkk⟩ : ∃ kq, K q = kq := ⟨_, rfl⟩
          rw [hkk] at hc hkq htq
          have HKQ : Hid (K q = kq) := hkk
          by_cases hbig : most < (tot K q : Int) + (kq : Int)
          · have hok : okOf open1 false most F1.length = false := hk1 (by rw [HT1.out, hkk]; omega)
            have HOK : Hid (okOf open1 false most F1.length = false) := hok
            clear hk1 hk2 hok
            generalize tot K q = tq at *
            go_wp2_with fail
            refine (zzadd_any gb w4.heap.size gen1 generation v F op1 false after (A' q) kq (C' q) (P q) most _ HI.out.1 HI.out.2.1 HI.out.2.2.1.size open1 F1 generation r HTu.out.1 (by rw [HPq.out.1, HKQ.out]) (by have := HPq.out.2.1; rw [HKQ.out] at this; exact this) hkq (by have := HPq.out.2.2.2; rw [HKQ.out] at this; exact this) (by have := HI.out.2.2.2.2; omega)).mono ?_
            rintro e w2 ⟨v2, hA2, _⟩
            have he2 : e = .returned (.tuple #[.slice none 0 0, .bool false]) := by rw [hA2.he, HOK.out]; rfl
            have HB2 : Hid (Below w4.heap.size w4 w2) := Keep.below HI.out.2.2.1 (Nat.le_refl _) hA2.keep HGB.out (fun k hk => (World.ownsRow.lt HI.out.2.1 k (HTu.out.2.1 k hk)).1)
            subst he2
            clear hA2
            go_wp2
            go_ret
            exact ⟨rfl, HS4.out.2.2.2.trans (HB2.out.mono HS4.out.2.2.2.size)⟩
          · obtain ⟨hok, hF1⟩ := hk2 (by rw [HT1.out, hkk]; omega)
            have HOK : Hid (okOf open1 false most F1.length = true ∧ F1 = cat P (q + 1) ∧ F1.length = tot K q + kq) := ⟨hok, hF1, by rw [hF1, cat_length HKL.out, HT1.out, hkk]⟩
            clear hk1 hk2 hok hF1
            go_wp2_with fail
            refine (zzadd_any gb w4.heap.size gen1 generation v F op1 false after (A' q) kq (C' q) (P q) most _ HI.out.1 HI.out.2.1 HI.out.2.2.1.size open1 F1 generation r HTu.out.1 (by rw [HPq.out.1, HKQ.out]) (by have := HPq.out.2.1; rw [HKQ.out] at this; exact this) hkq (by have := HPq.out.2.2.2; rw [HKQ.out] at this; exact this) (by have := HI.out.2.2.2.2; omega)).mono ?_
            rintro e w2 ⟨v2, hA2, _⟩
            have he2 : e = .returned (.tuple #[v2, .bool true]) := by rw [hA2.he, HOK.out.1]; rfl
            have HB2 : Hid (Below w4.heap.size w4 w2) := Keep.below HI.out.2.2.1 (Nat.le_refl _) hA2.keep HGB.out (fun k hk => (World.ownsRow.lt HI.out.2.1 k (HTu.out.2.1 k hk)).1)
            obtain ⟨a7, c7, hv7, s7, _, _⟩ := hA2.own.at
            rw [HOK.out.2.2] at hv7 s7
            rw [HOK.out.2.1] at s7
            subst hv7
            subst he2
            have HX : Hid (StrsAt w2 a7 (tot K q + kq) (get (cat P (q + 1)))) := s7
            have hlq : (((tot K q : Int) + (kq : Int)) != ((tot K q : Int) + (kq : Int))) = false := by simp
            have HTA : Hid (∀ i, i < q + 1 → tot K i + K i ≤ tot K q + kq) := fun i hi => by have := tot_ge K hi; rw [HT1.out, HKQ.out] at this; exact this
            clear hA2 s7 HI HTu HPq hc hbo
            have HQ2 : Hid (PAt w2 (some ⟨pb, 0, none⟩) (q + 1) A' K C' P) := HS4.out.2.1.below HB2.out
            go_wp2_with fail
            go_loopw [23, 24] (fun t i wx => ∃ p : Nat, p ≤ q + 1 ∧ i = .int .i64 p ∧ t = .int .i64 (tot K p) ∧ Hid (Drew w2 wx)) (fun _ i _ => q + 1 - (intOf i).toNat)
            case atStart => exact ⟨0, Nat.zero_le _, rfl, rfl, Drew.refl _⟩
            case round wx =>
              obtain ⟨p, hp, rfl, rfl, HD2⟩ := hrel
              by_cases hpt : p < q + 1
              · have htp := HTA.out p hpt
                have HT2 : Hid (tot K (p + 1) = tot K p + K p) := rfl
                have HGC : Hid (∀ j, j < K p → get (cat P (q + 1)) (tot K p + j) = get (P p) j) := fun j hj => get_cat HKL.out hpt hj
                obtain ⟨b1, o1, hbo1, hd1⟩ := (HQ2.out.drew HD2.out).cell p hpt
                obtain ⟨rfl, rfl⟩ : pb = b1 ∧ 0 = o1 := by simpa using hbo1
                rw [Nat.zero_add] at hd1
                have HSP : Hid (StrsAt w2 (A' p) (K p) (get (P p))) := (HQ2.out.strs p hpt).2.1
                have HPC : Hid (∀ W, Drew w2 W → W.cell? ⟨pb, p, none⟩ = some (.slice (A' p) (K p) (C' p))) := fun W hW => by
                  obtain ⟨b2, o2, hbo2, hd2⟩ := (HQ2.out.drew hW).cell p hpt
                  obtain ⟨rfl, rfl⟩ : pb = b2 ∧ 0 = o2 := by simpa using hbo2
                  rw [Nat.zero_add] at hd2
                  exact hd2
                have hpi : (p : Int) < (q : Int) + 1 := by omega
                obtain ⟨kp, hkp⟩ : ∃ kp, K p = kp := ⟨_, rfl⟩
                rw [hkp] at htp hd1 HGC HSP HPC HT2
                generalize tot K p = tp at *
                clear hbo1 hkp
                go_wp2_with fail
                go_loopw [23, 25] (fun t j wy => ∃ r : Nat, r ≤ kp ∧ j = .int .i64 r ∧ t = .int .i64 ((tp : Int) + (r : Int)) ∧ Hid (Drew w2 wy)) (fun _ j _ => kp - (intOf j).toNat)
                case atStart => exact ⟨0, Nat.zero_le _, rfl, by simp, HD2.out⟩
                case round wy =>
                  obtain ⟨r, hr, rfl, rfl, HD3⟩ := hrel
                  clear HD2 hd1
                  have hd2 := HPC.out _ HD3.out
                  by_cases hrt : r < kp
                  · obtain ⟨b4, o4, ha4, hc4⟩ := (HSP.out.drew HD3.out) r hrt
                    rw [ha4] at hd2
                    obtain ⟨b7, o7, ha7, hc7⟩ := (HX.out.drew HD3.out) (tp + r) (by omega)
                    rw [HGC.out r hrt] at hc7
                    subst ha7
                    have hri : (r : Int) < (kp : Int) := by omega
                    have hxi : (tp : Int) + (r : Int) < (tot K q : Int) + (kq : Int) := by omega
                    have hx0 : (0 : Int) ≤ (tp : Int) + (r : Int) := by omega
                    have htn : ((tp : Int) + (r : Int)).toNat = tp + r := by omega
                    generalize get (P p) r = sx at hc4 hc7
                    clear ha4
                    go_wp2_with fail
                    go_big_quiet (fail)
                    go_wp2
                    go_roundw
                    case rel => exact ⟨r + 1, by omega, by go_num, by go_num, HD3.out.drewN _⟩
                    case measure => simp [intOf]; omega
                  · have er : r = kp := by omega
                    subst er
                    go_wp2
                    go_roundw
                    case rel => exact ⟨p + 1, by omega, by go_num, by rw [HT2.out]; go_num, HD3.out⟩
                    case measure => simp [intOf]; omega
              · go_wp2
                go_ret
                exact ⟨rfl, HS4.out.2.2.2.trans ((HB2.out.trans (HD2.out.below _)).mono HS4.out.2.2.2.size)⟩

end Go.Proofs.Qxb6602261a.Nm
