/- The walk of FnGatheringAnswerIsTheList. -/
import Derived.Test.Qxb6602261aGMore
import Derived.Test.Qxb6602261aModel
namespace Go.Proofs.Qxb6602261a.Nm
open Go.RowKit

theorem eql_nil (a : Option Addr) (n c : Nat) (z : Bool) (h : a.isNone = z) : ∀ U, (binOp .eql 33 (.slice a n c) (.slice none 0 0)).run Try.prog U = .ok (.bool z) U :=
  fun U => by rw [← h]; exact Lib.run_eql_slice_nil U _ _ _ _ _ _ _ Try.underlying33
theorem neq_nil_nil : ∀ U, (binOp .neq 33 (.slice none 0 0) (.slice none 0 0)).run Try.prog U = .ok (.bool false) U :=
  fun U => run_neq_slice_nil_any U _ _ _ _ _ _ _ Try.underlying33

theorem GB.drewD {w w' : World} {gb : Nat} {x0 x1 x2 : Value} (h : GB w gb x0 x1 x2) (hd : Drew w w') : GB w' gb x0 x1 x2 := by
  obtain ⟨m, rfl⟩ := hd
  exact h
theorem Own.drewD {w w' : World} {B : Nat} {v : Value} {F : List ByteArray} (h : Own w B v F) (hd : Drew w w') : Own w' B v F := by
  obtain ⟨m, rfl⟩ := hd
  exact h
theorem nil_same {a b : Option Addr} {n c : Nat} {F : List ByteArray} (hn : F.length = n) (h : Value.slice a n c = .slice none 0 0 ↔ b = none) (hz : a = none → F = [] ∧ c = 0) : a.isNone = b.isNone := by
  cases a with
  | none =>
    obtain ⟨h1, rfl⟩ := hz rfl
    have h0 : n = 0 := by rw [← hn, h1]; rfl
    subst h0
    rw [h.1 rfl]
  | some x =>
    cases b with
    | none => have := h.2 rfl; simp at this
    | some y => rfl

set_option maxHeartbeats 8000000 in
set_option maxRecDepth 100000 in
/-- FnGatheringAnswerIsTheList returns true. -/
theorem answer_any (gen generation most : Int) (op more : Bool) (after : ByteArray) (a a' : Option Addr) (n cap n' cap' : Nat) (G N : List ByteArray) (w : World) (hG : G.length = n) (hN : N.length = n') (hS : StrsAt w a n (get G)) (hS' : StrsAt w a' n' (get N))
    (hn : n ≤ maxLen) (hn' : n' ≤ maxLen) (haf : after.size ≤ maxLen) (hz : a = none → n = 0 ∧ cap = 0) (hz' : a' = none → n' = 0 ∧ cap' = 0) :
    Calls Try.prog 9 #[.int .u64 gen, .slice a n cap, .bool op, .int .u64 generation, .string after, .bool more, .slice a' n' cap', .int .i64 most] w fun e w' => e = .returned (.bool true) ∧ Below w.heap.size w w' := by
  have H0 : Hid (G.length = n ∧ N.length = n' ∧ StrsAt w a n (get G) ∧ StrsAt w a' n' (get N) ∧ n ≤ maxLen ∧ n' ≤ maxLen ∧ (a = none → n = 0 ∧ cap = 0) ∧ (a' = none → n' = 0 ∧ cap' = 0) ∧ after.size ≤ maxLen) := ⟨hG, hN, hS, hS', hn, hn', hz, hz', haf⟩
  unfold maxLen at haf
  clear hG hN hS hS' hn hn' hz hz'
  go_enter Try.func9, Try.ntmps9
  go_wp2_with fail
  refine (bytes29_any _ _ _ _ _ _ _ _ _ _ _ _ _ _ _ H0.out.2.2.1 H0.out.2.2.2.1 H0.out.2.2.2.2.1 H0.out.2.2.2.2.2.1 H0.out.2.2.2.2.2.2.2.2).mono ?_
  rintro e w ⟨⟨bb, rfl⟩, rfl⟩
  cases bb
  · go_wp2_with fail
    go_ret
    exact ⟨rfl, Below.refl _ _⟩
  by_cases ha1 : after.size ≤ 1048576
  case neg =>
    go_wp2_with fail
    go_ret
    exact ⟨rfl, Below.refl _ _⟩
  go_wp2_with fail
  refine (size_any _ _ _ _ _ H0.out.2.2.1 H0.out.2.2.2.2.1).mono ?_
  rintro e w ⟨z1, rfl, hz1, rfl⟩
  go_wp2_with fail
  refine (size_any _ _ _ _ _ H0.out.2.2.2.1 H0.out.2.2.2.2.2.1).mono ?_
  rintro e w ⟨z2, rfl, hz2, rfl⟩
  obtain ⟨p1, p2, p3⟩ := hz1
  obtain ⟨q1, q2, q3⟩ := hz2
  by_cases hsum : z1 + z2 + after.size ≤ 1048576
  case neg =>
    go_wp2_with fail
    go_ret
    exact ⟨rfl, Below.refl _ _⟩
  have hn : n ≤ 65536 := p3 (by omega)
  have hn' : n' ≤ 65536 := q3 (by omega)
  clear p3 q3
  go_wp2_with fail
  refine (clone_any _ _ _ _ _ H0.out.2.2.1 hn H0.out.2.2.2.2.2.2.1).mono ?_
  rintro e w3 ⟨a3, c3, rfl, hs3, hc3, hz3, hbel3⟩
  have HS3 : Hid (StrsAt w3 a3 n (get G) ∧ StrsAt w3 a' n' (get N) ∧ (a3 = none → n = 0 ∧ c3 = 0) ∧ Below w.heap.size w w3) :=
    ⟨hs3, H0.out.2.2.2.1.below hbel3, hz3, hbel3⟩
  clear hs3 hc3 hz3 hbel3
  go_wp2_with fail
  refine (clone_any _ _ _ _ _ HS3.out.2.1 hn' H0.out.2.2.2.2.2.2.2.1).mono ?_
  rintro e w4 ⟨a4, c4, rfl, hs4, hc4, hz4, hbel4⟩
  have HS4 : Hid (StrsAt w4 a3 n (get G) ∧ StrsAt w4 a4 n' (get N) ∧ (a3 = none → n = 0 ∧ c3 = 0) ∧ (a4 = none → n' = 0 ∧ c4 = 0) ∧ Below w.heap.size w w4) :=
    ⟨HS3.out.1.below hbel4, hs4, HS3.out.2.2.1, hz4, HS3.out.2.2.2.trans (hbel4.mono HS3.out.2.2.2.size)⟩
  clear hs4 hc4 hz4 hbel4 HS3
  go_wp2_with fail
  refine (clone_own _ _ _ G _ H0.out.1 HS4.out.1 hn HS4.out.2.2.1).mono ?_
  rintro e w5 ⟨a5, c5, rfl, hown5, hbel5⟩
  go_wp2_with fail
  refine (new_any _ _ _ _ _ _).mono ?_
  rintro e w6 ⟨rfl, hw6⟩
  have hg6 : GB w6 w5.heap.size (.int .u64 gen) (.slice a5 n c5) (.bool op) := by rw [← hw6]; exact heap_alloc_new w5 _
  have hown6 : Own w6 w4.heap.size (.slice a5 n c5) G := by rw [← hw6]; exact hown5.alloc _
  have hs5 := hbel5.size
  have hbel6 : Below w4.heap.size w4 w6 := by rw [← hw6]; exact hbel5.alloc hs5 _
  have hs6 : w4.heap.size ≤ w6.heap.size := hbel6.size
  obtain ⟨gb, hgb⟩ : ∃ gb, w5.heap.size = gb := ⟨_, rfl⟩
  rw [hgb] at hg6 hs5
  rw [hgb]
  have HS6 : Hid (GB w6 gb (.int .u64 gen) (.slice a5 n c5) (.bool op) ∧ Own w6 w4.heap.size (.slice a5 n c5) G ∧ Below w4.heap.size w4 w6 ∧ w4.heap.size ≤ gb) := ⟨hg6, hown6, hbel6, hs5⟩
  clear hw6 hgb hown5 hbel5 hg6 hown6 hbel6 hs5
  have hneq := neq_nil_nil
  have hnn := eql_nil none 0 0 true rfl
  cases he : after.toList.isEmpty
  · rcases first_ways gen generation G op after with ⟨rfl, rfl, m, hm, hl⟩ | rfl | ⟨rfl, hge⟩ | ⟨rfl, rfl, hm⟩ | ⟨rfl, rfl, m, hm, hl⟩
    · have hnm : n = m + 1 := by rw [← H0.out.1, hm]
      subst hnm
      obtain ⟨b3, o3, ha3, _, hcl3⟩ := (HS4.out.1.below HS6.out.2.2.1).split (by omega)
      subst ha3
      have HCL : Hid (∀ W, Below w4.heap.size w4 W → W.cell? ⟨b3, o3 + m, none⟩ = some (.string after)) := fun W hW => by
        have := (HS4.out.1.below hW).cell (i := m) (by omega)
        rw [hl] at this
        exact this
      have HJ : Hid (Turn gen gen G N true after (.slice a5 (m + 1) c5) true (G ++ N) gen (Value.ownBlock (.slice a5 (m + 1) c5))) := .inr (.inl ⟨he, ⟨rfl, rfl, m, hm, hl⟩, rfl, rfl, rfl, rfl⟩)
      have HL : Hid ((G ++ N).length = m + 1 + n') := by rw [List.length_append, H0.out.1, H0.out.2.1]; rfl
      have hm64 : m ≤ 65535 := by omega
      clear hcl3 hl hm
      by_cases hbig : most < (m : Int) + 1 + (n' : Int)
      · cases more
        · have hok : okOf true false most (G ++ N).length = false := by rw [HL.out]; simp [okOf]; try omega
          have hop7 : opOf true false most (G ++ N).length = false := by rw [HL.out]; simp [opOf]; try omega
          go_wp2_with fail
          refine (zzadd_any gb w4.heap.size gen gen (.slice a5 (m + 1) c5) G true false after a4 n' c4 N most _ HS6.out.1 HS6.out.2.1 hs6 true (G ++ N) gen _ HJ.out H0.out.2.1 (HS4.out.2.1.below HS6.out.2.2.1) hn' HS4.out.2.2.2.1 (by rw [H0.out.1]; omega)).mono ?_
          rintro e w7 ⟨v7, hA7, hN7⟩
          have he7 : e = .returned (.tuple #[.slice none 0 0, .bool false]) := by rw [hA7.he, hok]; rfl
          have hg7 := hA7.hg
          rw [hop7] at hg7
          have HS7 : Hid (GB w7 gb (.int .u64 gen) v7 (.bool false) ∧ Own w7 w4.heap.size v7 (G ++ N) ∧ Below w4.heap.size w4 w7 ∧ ((G ++ N)).length ≤ 1048576) := ⟨hg7, hA7.own, Keep.below HS6.out.2.2.1 (Nat.le_refl _) hA7.keep HS6.out.2.2.2 (fun k hk => (World.ownsRow.lt HS6.out.2.1 k hk).1), by rw [HL.out]; omega⟩
          subst he7
          have hc7 := HCL.out w7 HS7.out.2.2.1
          clear hg7 hA7 hN7 hok hop7
          obtain ⟨open2, F2, r2, ht2, hok2, hr2⟩ := second_turn gen gen (G ++ N) N false false after v7 most he (fun h => by cases h)
          have HT2 : Hid (Turn gen gen (G ++ N) N false after v7 open2 F2 gen r2 ∧ okOf open2 false most F2.length = false ∧ (∀ k, r2 = some k → v7.ownBlock = some k)) := ⟨ht2, hok2, hr2⟩
          clear ht2 hok2 hr2
          go_wp2_with fail
          refine (zzadd_any gb w4.heap.size gen gen v7 (G ++ N) false false after a4 n' c4 N most _ HS7.out.1 HS7.out.2.1 HS7.out.2.2.1.size open2 F2 gen r2 HT2.out.1 H0.out.2.1 (HS4.out.2.1.below HS7.out.2.2.1) hn' HS4.out.2.2.2.1 HS7.out.2.2.2).mono ?_
          rintro e w9 ⟨v9, hA9, _⟩
          have he9 : e = .returned (.tuple #[.slice none 0 0, .bool false]) := by rw [hA9.he, HT2.out.2.1]; rfl
          have HS9 : Hid (Below w4.heap.size w4 w9) := Keep.below HS7.out.2.2.1 (Nat.le_refl _) hA9.keep HS6.out.2.2.2 (fun k hk => (World.ownsRow.lt HS7.out.2.1 k (HT2.out.2.2 k hk)).1)
          subst he9
          clear hA9
          go_wp2
          go_ret
          exact ⟨rfl, HS4.out.2.2.2.2.trans (HS9.out.mono HS4.out.2.2.2.2.size)⟩
        · have hok : okOf true true most (G ++ N).length = false := by rw [HL.out]; simp [okOf]; try omega
          have hop7 : opOf true true most (G ++ N).length = false := by rw [HL.out]; simp [opOf]; try omega
          go_wp2_with fail
          refine (zzadd_any gb w4.heap.size gen gen (.slice a5 (m + 1) c5) G true true after a4 n' c4 N most _ HS6.out.1 HS6.out.2.1 hs6 true (G ++ N) gen _ HJ.out H0.out.2.1 (HS4.out.2.1.below HS6.out.2.2.1) hn' HS4.out.2.2.2.1 (by rw [H0.out.1]; omega)).mono ?_
          rintro e w7 ⟨v7, hA7, hN7⟩
          have he7 : e = .returned (.tuple #[.slice none 0 0, .bool false]) := by rw [hA7.he, hok]; rfl
          have hg7 := hA7.hg
          rw [hop7] at hg7
          have HS7 : Hid (GB w7 gb (.int .u64 gen) v7 (.bool false) ∧ Own w7 w4.heap.size v7 (G ++ N) ∧ Below w4.heap.size w4 w7 ∧ ((G ++ N)).length ≤ 1048576) := ⟨hg7, hA7.own, Keep.below HS6.out.2.2.1 (Nat.le_refl _) hA7.keep HS6.out.2.2.2 (fun k hk => (World.ownsRow.lt HS6.out.2.1 k hk).1), by rw [HL.out]; omega⟩
          subst he7
          have hc7 := HCL.out w7 HS7.out.2.2.1
          clear hg7 hA7 hN7 hok hop7
          obtain ⟨open2, F2, r2, ht2, hok2, hr2⟩ := second_turn gen gen (G ++ N) N false true after v7 most he (fun h => ⟨rfl, rfl⟩)
          have HT2 : Hid (Turn gen gen (G ++ N) N false after v7 open2 F2 gen r2 ∧ okOf open2 true most F2.length = false ∧ (∀ k, r2 = some k → v7.ownBlock = some k)) := ⟨ht2, hok2, hr2⟩
          clear ht2 hok2 hr2
          go_wp2_with fail
          refine (zzadd_any gb w4.heap.size gen gen v7 (G ++ N) false true after a4 n' c4 N most _ HS7.out.1 HS7.out.2.1 HS7.out.2.2.1.size open2 F2 gen r2 HT2.out.1 H0.out.2.1 (HS4.out.2.1.below HS7.out.2.2.1) hn' HS4.out.2.2.2.1 HS7.out.2.2.2).mono ?_
          rintro e w9 ⟨v9, hA9, _⟩
          have he9 : e = .returned (.tuple #[.slice none 0 0, .bool false]) := by rw [hA9.he, HT2.out.2.1]; rfl
          have HS9 : Hid (Below w4.heap.size w4 w9) := Keep.below HS7.out.2.2.1 (Nat.le_refl _) hA9.keep HS6.out.2.2.2 (fun k hk => (World.ownsRow.lt HS7.out.2.1 k (HT2.out.2.2 k hk)).1)
          subst he9
          clear hA9
          go_wp2
          go_ret
          exact ⟨rfl, HS4.out.2.2.2.2.trans (HS9.out.mono HS4.out.2.2.2.2.size)⟩
      · cases more
        · have hok : okOf true false most (G ++ N).length = true := by rw [HL.out]; simp [okOf]; try omega
          have hop7 : opOf true false most (G ++ N).length = false := by rw [HL.out]; simp [opOf]; try omega
          go_wp2_with fail
          refine (zzadd_any gb w4.heap.size gen gen (.slice a5 (m + 1) c5) G true false after a4 n' c4 N most _ HS6.out.1 HS6.out.2.1 hs6 true (G ++ N) gen _ HJ.out H0.out.2.1 (HS4.out.2.1.below HS6.out.2.2.1) hn' HS4.out.2.2.2.1 (by rw [H0.out.1]; omega)).mono ?_
          rintro e w7 ⟨v7, hA7, hN7⟩
          have he7 : e = .returned (.tuple #[v7, .bool true]) := by rw [hA7.he, hok]; rfl
          have hg7 := hA7.hg
          rw [hop7] at hg7
          have HS7 : Hid (GB w7 gb (.int .u64 gen) v7 (.bool false) ∧ Own w7 w4.heap.size v7 (G ++ N) ∧ Below w4.heap.size w4 w7 ∧ ((G ++ N)).length ≤ 1048576) := ⟨hg7, hA7.own, Keep.below HS6.out.2.2.1 (Nat.le_refl _) hA7.keep HS6.out.2.2.2 (fun k hk => (World.ownsRow.lt HS6.out.2.1 k hk).1), by rw [HL.out]; omega⟩
          subst he7
          obtain ⟨a7, c7, hv7, s7, z7, _⟩ := HS7.out.2.1.at
          rw [HL.out] at hv7 s7
          subst hv7
          have hc7 := HCL.out w7 HS7.out.2.2.1
          have HX : Hid (StrsAt w7 a7 (m + 1 + n') (get (G ++ N))) := s7
          clear hg7 hA7 hN7 hok hop7 s7 z7
          go_wp2_with fail
          refine (concat_any a7 (some ⟨b3, o3, none⟩) a4 (m + 1 + n') c7 (m + 1) c3 n' c4 (G ++ N) G N _ H0.out.1 H0.out.2.1 rfl rfl HX.out (HS4.out.1.below HS7.out.2.2.1) (HS4.out.2.1.below HS7.out.2.2.1) hn hn').mono ?_
          rintro e w8 ⟨rfl, hd8⟩
          obtain ⟨v7, hv7⟩ : ∃ v7, Value.slice a7 (m + 1 + n') c7 = v7 := ⟨_, rfl⟩
          have HS8 : Hid (GB w8 gb (.int .u64 gen) v7 (.bool false) ∧ Own w8 w4.heap.size v7 (G ++ N) ∧ Below w4.heap.size w4 w8 ∧ (G ++ N).length ≤ 1048576) := by
            rw [← hv7]
            exact ⟨HS7.out.1.drewD hd8, HS7.out.2.1.drewD hd8, HS7.out.2.2.1.trans (hd8.below _), HS7.out.2.2.2⟩
          clear hd8 HX hc7 HS7 hv7
          obtain ⟨open2, F2, r2, ht2, hok2, hr2⟩ := second_turn gen gen (G ++ N) N false false after v7 most he (fun h => by cases h)
          have HT2 : Hid (Turn gen gen (G ++ N) N false after v7 open2 F2 gen r2 ∧ okOf open2 false most F2.length = false ∧ (∀ k, r2 = some k → v7.ownBlock = some k)) := ⟨ht2, hok2, hr2⟩
          clear ht2 hok2 hr2
          go_wp2_with fail
          refine (zzadd_any gb w4.heap.size gen gen v7 (G ++ N) false false after a4 n' c4 N most _ HS8.out.1 HS8.out.2.1 HS8.out.2.2.1.size open2 F2 gen r2 HT2.out.1 H0.out.2.1 (HS4.out.2.1.below HS8.out.2.2.1) hn' HS4.out.2.2.2.1 HS8.out.2.2.2).mono ?_
          rintro e w9 ⟨v9, hA9, _⟩
          have he9 : e = .returned (.tuple #[.slice none 0 0, .bool false]) := by rw [hA9.he, HT2.out.2.1]; rfl
          have HS9 : Hid (Below w4.heap.size w4 w9) := Keep.below HS8.out.2.2.1 (Nat.le_refl _) hA9.keep HS6.out.2.2.2 (fun k hk => (World.ownsRow.lt HS8.out.2.1 k (HT2.out.2.2 k hk)).1)
          subst he9
          clear hA9
          go_wp2
          go_ret
          exact ⟨rfl, HS4.out.2.2.2.2.trans (HS9.out.mono HS4.out.2.2.2.2.size)⟩
        · have hok : okOf true true most (G ++ N).length = false := by rw [HL.out]; simp [okOf]; try omega
          have hop7 : opOf true true most (G ++ N).length = true := by rw [HL.out]; simp [opOf]; try omega
          go_wp2_with fail
          refine (zzadd_any gb w4.heap.size gen gen (.slice a5 (m + 1) c5) G true true after a4 n' c4 N most _ HS6.out.1 HS6.out.2.1 hs6 true (G ++ N) gen _ HJ.out H0.out.2.1 (HS4.out.2.1.below HS6.out.2.2.1) hn' HS4.out.2.2.2.1 (by rw [H0.out.1]; omega)).mono ?_
          rintro e w7 ⟨v7, hA7, hN7⟩
          have he7 : e = .returned (.tuple #[.slice none 0 0, .bool false]) := by rw [hA7.he, hok]; rfl
          have hg7 := hA7.hg
          rw [hop7] at hg7
          have HS7 : Hid (GB w7 gb (.int .u64 gen) v7 (.bool true) ∧ Own w7 w4.heap.size v7 (G ++ N) ∧ Below w4.heap.size w4 w7 ∧ ((G ++ N)).length ≤ 1048576) := ⟨hg7, hA7.own, Keep.below HS6.out.2.2.1 (Nat.le_refl _) hA7.keep HS6.out.2.2.2 (fun k hk => (World.ownsRow.lt HS6.out.2.1 k hk).1), by rw [HL.out]; omega⟩
          subst he7
          have hc7 := HCL.out w7 HS7.out.2.2.1
          clear hg7 hA7 hN7 hok hop7
          obtain ⟨open2, F2, r2, ht2, hok2, hr2⟩ := second_turn gen gen (G ++ N) N true true after v7 most he (fun h => ⟨rfl, rfl⟩)
          have HT2 : Hid (Turn gen gen (G ++ N) N true after v7 open2 F2 gen r2 ∧ okOf open2 true most F2.length = false ∧ (∀ k, r2 = some k → v7.ownBlock = some k)) := ⟨ht2, hok2, hr2⟩
          clear ht2 hok2 hr2
          go_wp2_with fail
          refine (zzadd_any gb w4.heap.size gen gen v7 (G ++ N) true true after a4 n' c4 N most _ HS7.out.1 HS7.out.2.1 HS7.out.2.2.1.size open2 F2 gen r2 HT2.out.1 H0.out.2.1 (HS4.out.2.1.below HS7.out.2.2.1) hn' HS4.out.2.2.2.1 HS7.out.2.2.2).mono ?_
          rintro e w9 ⟨v9, hA9, _⟩
          have he9 : e = .returned (.tuple #[.slice none 0 0, .bool false]) := by rw [hA9.he, HT2.out.2.1]; rfl
          have HS9 : Hid (Below w4.heap.size w4 w9) := Keep.below HS7.out.2.2.1 (Nat.le_refl _) hA9.keep HS6.out.2.2.2 (fun k hk => (World.ownsRow.lt HS7.out.2.1 k (HT2.out.2.2 k hk)).1)
          subst he9
          clear hA9
          go_wp2
          go_ret
          exact ⟨rfl, HS4.out.2.2.2.2.trans (HS9.out.mono HS4.out.2.2.2.2.size)⟩
    · have hok : okOf false more most G.length = false := by simp [okOf]
      have hop7 : opOf false more most G.length = false := by simp [opOf]
      have HJ : Hid (Turn gen generation G N false after (.slice a5 n c5) false G gen none) := .inr (.inr ⟨he, .inl rfl, rfl, rfl, rfl, rfl⟩)
      go_wp2_with fail
      refine (zzadd_any gb w4.heap.size gen generation (.slice a5 n c5) G false more after a4 n' c4 N most _ HS6.out.1 HS6.out.2.1 hs6 false G gen none HJ.out H0.out.2.1 (HS4.out.2.1.below HS6.out.2.2.1) hn' HS4.out.2.2.2.1 (by rw [H0.out.1]; omega)).mono ?_
      rintro e w7 ⟨v7, hA7, hN7⟩
      have he7 : e = .returned (.tuple #[.slice none 0 0, .bool false]) := by rw [hA7.he, hok]; rfl
      have hg7 := hA7.hg
      rw [hop7] at hg7
      have HS7 : Hid (GB w7 gb (.int .u64 gen) v7 (.bool false) ∧ Own w7 w4.heap.size v7 G ∧ Below w4.heap.size w4 w7 ∧ (G).length ≤ 1048576) := ⟨hg7, hA7.own, Keep.below HS6.out.2.2.1 (Nat.le_refl _) hA7.keep HS6.out.2.2.2 (fun k hk => by cases hk), (by rw [H0.out.1]; omega)⟩
      subst he7
      clear hg7 hA7 hN7 hok hop7
      obtain ⟨open2, F2, r2, ht2, hok2, hr2⟩ := second_turn gen generation G N false more after v7 most he (fun h => by cases h)
      have HT2 : Hid (Turn gen generation G N false after v7 open2 F2 gen r2 ∧ okOf open2 more most F2.length = false ∧ (∀ k, r2 = some k → v7.ownBlock = some k)) := ⟨ht2, hok2, hr2⟩
      clear ht2 hok2 hr2
      go_wp2_with fail
      refine (zzadd_any gb w4.heap.size gen generation v7 G false more after a4 n' c4 N most _ HS7.out.1 HS7.out.2.1 HS7.out.2.2.1.size open2 F2 gen r2 HT2.out.1 H0.out.2.1 (HS4.out.2.1.below HS7.out.2.2.1) hn' HS4.out.2.2.2.1 HS7.out.2.2.2).mono ?_
      rintro e w9 ⟨v9, hA9, _⟩
      have he9 : e = .returned (.tuple #[.slice none 0 0, .bool false]) := by rw [hA9.he, HT2.out.2.1]; rfl
      have HS9 : Hid (Below w4.heap.size w4 w9) := Keep.below HS7.out.2.2.1 (Nat.le_refl _) hA9.keep HS6.out.2.2.2 (fun k hk => (World.ownsRow.lt HS7.out.2.1 k (HT2.out.2.2 k hk)).1)
      subst he9
      clear hA9
      go_wp2
      go_ret
      exact ⟨rfl, HS4.out.2.2.2.2.trans (HS9.out.mono HS4.out.2.2.2.2.size)⟩
    · have hg1 : (gen == generation) = false := by simp [hge]
      have hg2 : (generation == gen) = false := by simp; exact fun e => hge e.symm
      have hok : okOf false more most G.length = false := by simp [okOf]
      have hop7 : opOf false more most G.length = false := by simp [opOf]
      have HJ : Hid (Turn gen generation G N true after (.slice a5 n c5) false G gen none) := .inr (.inr ⟨he, .inr (.inl ⟨rfl, hg2⟩), rfl, rfl, rfl, rfl⟩)
      clear hge
      go_wp2_with fail
      refine (zzadd_any gb w4.heap.size gen generation (.slice a5 n c5) G true more after a4 n' c4 N most _ HS6.out.1 HS6.out.2.1 hs6 false G gen none HJ.out H0.out.2.1 (HS4.out.2.1.below HS6.out.2.2.1) hn' HS4.out.2.2.2.1 (by rw [H0.out.1]; omega)).mono ?_
      rintro e w7 ⟨v7, hA7, hN7⟩
      have he7 : e = .returned (.tuple #[.slice none 0 0, .bool false]) := by rw [hA7.he, hok]; rfl
      have hg7 := hA7.hg
      rw [hop7] at hg7
      have HS7 : Hid (GB w7 gb (.int .u64 gen) v7 (.bool false) ∧ Own w7 w4.heap.size v7 G ∧ Below w4.heap.size w4 w7 ∧ (G).length ≤ 1048576) := ⟨hg7, hA7.own, Keep.below HS6.out.2.2.1 (Nat.le_refl _) hA7.keep HS6.out.2.2.2 (fun k hk => by cases hk), (by rw [H0.out.1]; omega)⟩
      subst he7
      clear hg7 hA7 hN7 hok hop7
      obtain ⟨open2, F2, r2, ht2, hok2, hr2⟩ := second_turn gen generation G N false more after v7 most he (fun h => by cases h)
      have HT2 : Hid (Turn gen generation G N false after v7 open2 F2 gen r2 ∧ okOf open2 more most F2.length = false ∧ (∀ k, r2 = some k → v7.ownBlock = some k)) := ⟨ht2, hok2, hr2⟩
      clear ht2 hok2 hr2
      go_wp2_with fail
      refine (zzadd_any gb w4.heap.size gen generation v7 G false more after a4 n' c4 N most _ HS7.out.1 HS7.out.2.1 HS7.out.2.2.1.size open2 F2 gen r2 HT2.out.1 H0.out.2.1 (HS4.out.2.1.below HS7.out.2.2.1) hn' HS4.out.2.2.2.1 HS7.out.2.2.2).mono ?_
      rintro e w9 ⟨v9, hA9, _⟩
      have he9 : e = .returned (.tuple #[.slice none 0 0, .bool false]) := by rw [hA9.he, HT2.out.2.1]; rfl
      have HS9 : Hid (Below w4.heap.size w4 w9) := Keep.below HS7.out.2.2.1 (Nat.le_refl _) hA9.keep HS6.out.2.2.2 (fun k hk => (World.ownsRow.lt HS7.out.2.1 k (HT2.out.2.2 k hk)).1)
      subst he9
      clear hA9
      go_wp2
      go_ret
      exact ⟨rfl, HS4.out.2.2.2.2.trans (HS9.out.mono HS4.out.2.2.2.2.size)⟩
    · have hn0 : n = 0 := by rw [← H0.out.1, hm]
      subst hn0
      have hok : okOf false more most G.length = false := by simp [okOf]
      have hop7 : opOf false more most G.length = false := by simp [opOf]
      have HJ : Hid (Turn gen gen G N true after (.slice a5 0 c5) false G gen none) := .inr (.inr ⟨he, .inr (.inr (.inl ⟨rfl, rfl, hm⟩)), rfl, rfl, rfl, rfl⟩)
      clear hm
      go_wp2_with fail
      refine (zzadd_any gb w4.heap.size gen gen (.slice a5 0 c5) G true more after a4 n' c4 N most _ HS6.out.1 HS6.out.2.1 hs6 false G gen none HJ.out H0.out.2.1 (HS4.out.2.1.below HS6.out.2.2.1) hn' HS4.out.2.2.2.1 (by rw [H0.out.1]; omega)).mono ?_
      rintro e w7 ⟨v7, hA7, hN7⟩
      have he7 : e = .returned (.tuple #[.slice none 0 0, .bool false]) := by rw [hA7.he, hok]; rfl
      have hg7 := hA7.hg
      rw [hop7] at hg7
      have HS7 : Hid (GB w7 gb (.int .u64 gen) v7 (.bool false) ∧ Own w7 w4.heap.size v7 G ∧ Below w4.heap.size w4 w7 ∧ (G).length ≤ 1048576) := ⟨hg7, hA7.own, Keep.below HS6.out.2.2.1 (Nat.le_refl _) hA7.keep HS6.out.2.2.2 (fun k hk => by cases hk), (by rw [H0.out.1]; omega)⟩
      subst he7
      clear hg7 hA7 hN7 hok hop7
      obtain ⟨open2, F2, r2, ht2, hok2, hr2⟩ := second_turn gen gen G N false more after v7 most he (fun h => by cases h)
      have HT2 : Hid (Turn gen gen G N false after v7 open2 F2 gen r2 ∧ okOf open2 more most F2.length = false ∧ (∀ k, r2 = some k → v7.ownBlock = some k)) := ⟨ht2, hok2, hr2⟩
      clear ht2 hok2 hr2
      go_wp2_with fail
      refine (zzadd_any gb w4.heap.size gen gen v7 G false more after a4 n' c4 N most _ HS7.out.1 HS7.out.2.1 HS7.out.2.2.1.size open2 F2 gen r2 HT2.out.1 H0.out.2.1 (HS4.out.2.1.below HS7.out.2.2.1) hn' HS4.out.2.2.2.1 HS7.out.2.2.2).mono ?_
      rintro e w9 ⟨v9, hA9, _⟩
      have he9 : e = .returned (.tuple #[.slice none 0 0, .bool false]) := by rw [hA9.he, HT2.out.2.1]; rfl
      have HS9 : Hid (Below w4.heap.size w4 w9) := Keep.below HS7.out.2.2.1 (Nat.le_refl _) hA9.keep HS6.out.2.2.2 (fun k hk => (World.ownsRow.lt HS7.out.2.1 k (HT2.out.2.2 k hk)).1)
      subst he9
      clear hA9
      go_wp2
      go_ret
      exact ⟨rfl, HS4.out.2.2.2.2.trans (HS9.out.mono HS4.out.2.2.2.2.size)⟩
    · have hnm : n = m + 1 := by rw [← H0.out.1, hm]
      subst hnm
      obtain ⟨b3, o3, ha3, _, hcl3⟩ := (HS4.out.1.below HS6.out.2.2.1).split (by omega)
      subst ha3
      have HCL : Hid (∀ W, Below w4.heap.size w4 W → W.cell? ⟨b3, o3 + m, none⟩ = some (.string (get G m))) := fun W hW => (HS4.out.1.below hW).cell (i := m) (by omega)
      have hm64 : m ≤ 65535 := by omega
      have hsq : ((get G m).toList == after.toList) = false := seq_false hl
      have hok : okOf false more most G.length = false := by simp [okOf]
      have hop7 : opOf false more most G.length = false := by simp [opOf]
      have HJ : Hid (Turn gen gen G N true after (.slice a5 (m + 1) c5) false G gen none) := .inr (.inr ⟨he, .inr (.inr (.inr ⟨rfl, rfl, m, hm, hl⟩)), rfl, rfl, rfl, rfl⟩)
      clear hcl3 hl hm
      go_wp2_with fail
      refine (zzadd_any gb w4.heap.size gen gen (.slice a5 (m + 1) c5) G true more after a4 n' c4 N most _ HS6.out.1 HS6.out.2.1 hs6 false G gen none HJ.out H0.out.2.1 (HS4.out.2.1.below HS6.out.2.2.1) hn' HS4.out.2.2.2.1 (by rw [H0.out.1]; omega)).mono ?_
      rintro e w7 ⟨v7, hA7, hN7⟩
      have he7 : e = .returned (.tuple #[.slice none 0 0, .bool false]) := by rw [hA7.he, hok]; rfl
      have hg7 := hA7.hg
      rw [hop7] at hg7
      have HS7 : Hid (GB w7 gb (.int .u64 gen) v7 (.bool false) ∧ Own w7 w4.heap.size v7 G ∧ Below w4.heap.size w4 w7 ∧ (G).length ≤ 1048576) := ⟨hg7, hA7.own, Keep.below HS6.out.2.2.1 (Nat.le_refl _) hA7.keep HS6.out.2.2.2 (fun k hk => by cases hk), (by rw [H0.out.1]; omega)⟩
      subst he7
      have hc7 := HCL.out w7 HS7.out.2.2.1
      clear hg7 hA7 hN7 hok hop7
      obtain ⟨open2, F2, r2, ht2, hok2, hr2⟩ := second_turn gen gen G N false more after v7 most he (fun h => by cases h)
      have HT2 : Hid (Turn gen gen G N false after v7 open2 F2 gen r2 ∧ okOf open2 more most F2.length = false ∧ (∀ k, r2 = some k → v7.ownBlock = some k)) := ⟨ht2, hok2, hr2⟩
      clear ht2 hok2 hr2
      go_wp2_with fail
      refine (zzadd_any gb w4.heap.size gen gen v7 G false more after a4 n' c4 N most _ HS7.out.1 HS7.out.2.1 HS7.out.2.2.1.size open2 F2 gen r2 HT2.out.1 H0.out.2.1 (HS4.out.2.1.below HS7.out.2.2.1) hn' HS4.out.2.2.2.1 HS7.out.2.2.2).mono ?_
      rintro e w9 ⟨v9, hA9, _⟩
      have he9 : e = .returned (.tuple #[.slice none 0 0, .bool false]) := by rw [hA9.he, HT2.out.2.1]; rfl
      have HS9 : Hid (Below w4.heap.size w4 w9) := Keep.below HS7.out.2.2.1 (Nat.le_refl _) hA9.keep HS6.out.2.2.2 (fun k hk => (World.ownsRow.lt HS7.out.2.1 k (HT2.out.2.2 k hk)).1)
      subst he9
      clear hA9
      go_wp2
      go_ret
      exact ⟨rfl, HS4.out.2.2.2.2.trans (HS9.out.mono HS4.out.2.2.2.2.size)⟩
  · by_cases hbig : most < (n' : Int)
    · cases more
      · have hok : okOf true false most N.length = false := by rw [H0.out.2.1]; simp [okOf]; try omega
        have hop7 : opOf true false most N.length = false := by rw [H0.out.2.1]; simp [opOf]; try omega
        have HF : Hid (∀ (g : Int) (F : List ByteArray) (o : Bool) (v : Value), Turn g generation F N o after v true N generation none) := fun g F o v => .inl ⟨he, rfl, rfl, rfl, rfl⟩
        go_wp2_with fail
        refine (zzadd_any gb w4.heap.size gen generation (.slice a5 n c5) G op false after a4 n' c4 N most _ HS6.out.1 HS6.out.2.1 hs6 true N generation none (HF.out _ _ _ _) H0.out.2.1 (HS4.out.2.1.below HS6.out.2.2.1) hn' HS4.out.2.2.2.1 (by rw [H0.out.1]; omega)).mono ?_
        rintro e w7 ⟨v7, hA7, hN7⟩
        have he7 : e = .returned (.tuple #[.slice none 0 0, .bool false]) := by rw [hA7.he, hok]; rfl
        have hg7 := hA7.hg
        rw [hop7] at hg7
        have HS7 : Hid (GB w7 gb (.int .u64 generation) v7 (.bool false) ∧ Own w7 w4.heap.size v7 N ∧ Below w4.heap.size w4 w7 ∧ (N).length ≤ 1048576) := ⟨hg7, hA7.own, Keep.below HS6.out.2.2.1 (Nat.le_refl _) hA7.keep HS6.out.2.2.2 (fun k hk => by cases hk), by rw [H0.out.2.1]; omega⟩
        subst he7
        have HOK : Hid (okOf true false most N.length = false) := hok
        clear hg7 hA7 hN7 hok hop7
        go_wp2_with fail
        refine (zzadd_any gb w4.heap.size generation generation v7 N false false after a4 n' c4 N most _ HS7.out.1 HS7.out.2.1 HS7.out.2.2.1.size true N generation none (HF.out _ _ _ _) H0.out.2.1 (HS4.out.2.1.below HS7.out.2.2.1) hn' HS4.out.2.2.2.1 HS7.out.2.2.2).mono ?_
        rintro e w9 ⟨v9, hA9, _⟩
        have he9 : e = .returned (.tuple #[.slice none 0 0, .bool false]) := by rw [hA9.he, HOK.out]; rfl
        have HS9 : Hid (Below w4.heap.size w4 w9) := Keep.below HS7.out.2.2.1 (Nat.le_refl _) hA9.keep HS6.out.2.2.2 (fun k hk => by cases hk)
        subst he9
        clear hA9
        go_wp2_with fail
        refine (equal_any none none 0 0 0 0 (get []) (get []) _ (StrsAt.zero _ _ _) (StrsAt.zero _ _ _) (by omega) rfl (fun _ _ => rfl)).mono ?_
        rintro e w10 ⟨rfl, hd10⟩
        have HS10 : Hid (Below w4.heap.size w4 w10) := HS9.out.trans (hd10.below _)
        clear hd10 HS9
        go_wp2
        go_ret
        exact ⟨rfl, HS4.out.2.2.2.2.trans (HS10.out.mono HS4.out.2.2.2.2.size)⟩
      · have hok : okOf true true most N.length = false := by rw [H0.out.2.1]; simp [okOf]; try omega
        have hop7 : opOf true true most N.length = false := by rw [H0.out.2.1]; simp [opOf]; try omega
        have HF : Hid (∀ (g : Int) (F : List ByteArray) (o : Bool) (v : Value), Turn g generation F N o after v true N generation none) := fun g F o v => .inl ⟨he, rfl, rfl, rfl, rfl⟩
        go_wp2_with fail
        refine (zzadd_any gb w4.heap.size gen generation (.slice a5 n c5) G op true after a4 n' c4 N most _ HS6.out.1 HS6.out.2.1 hs6 true N generation none (HF.out _ _ _ _) H0.out.2.1 (HS4.out.2.1.below HS6.out.2.2.1) hn' HS4.out.2.2.2.1 (by rw [H0.out.1]; omega)).mono ?_
        rintro e w7 ⟨v7, hA7, hN7⟩
        have he7 : e = .returned (.tuple #[.slice none 0 0, .bool false]) := by rw [hA7.he, hok]; rfl
        have hg7 := hA7.hg
        rw [hop7] at hg7
        have HS7 : Hid (GB w7 gb (.int .u64 generation) v7 (.bool false) ∧ Own w7 w4.heap.size v7 N ∧ Below w4.heap.size w4 w7 ∧ (N).length ≤ 1048576) := ⟨hg7, hA7.own, Keep.below HS6.out.2.2.1 (Nat.le_refl _) hA7.keep HS6.out.2.2.2 (fun k hk => by cases hk), by rw [H0.out.2.1]; omega⟩
        subst he7
        have HOK : Hid (okOf true true most N.length = false) := hok
        clear hg7 hA7 hN7 hok hop7
        go_wp2_with fail
        refine (zzadd_any gb w4.heap.size generation generation v7 N false true after a4 n' c4 N most _ HS7.out.1 HS7.out.2.1 HS7.out.2.2.1.size true N generation none (HF.out _ _ _ _) H0.out.2.1 (HS4.out.2.1.below HS7.out.2.2.1) hn' HS4.out.2.2.2.1 HS7.out.2.2.2).mono ?_
        rintro e w9 ⟨v9, hA9, _⟩
        have he9 : e = .returned (.tuple #[.slice none 0 0, .bool false]) := by rw [hA9.he, HOK.out]; rfl
        have HS9 : Hid (Below w4.heap.size w4 w9) := Keep.below HS7.out.2.2.1 (Nat.le_refl _) hA9.keep HS6.out.2.2.2 (fun k hk => by cases hk)
        subst he9
        clear hA9
        go_wp2_with fail
        refine (equal_any none none 0 0 0 0 (get []) (get []) _ (StrsAt.zero _ _ _) (StrsAt.zero _ _ _) (by omega) rfl (fun _ _ => rfl)).mono ?_
        rintro e w10 ⟨rfl, hd10⟩
        have HS10 : Hid (Below w4.heap.size w4 w10) := HS9.out.trans (hd10.below _)
        clear hd10 HS9
        go_wp2
        go_ret
        exact ⟨rfl, HS4.out.2.2.2.2.trans (HS10.out.mono HS4.out.2.2.2.2.size)⟩
    · cases more
      · have hok : okOf true false most N.length = true := by rw [H0.out.2.1]; simp [okOf]; try omega
        have hop7 : opOf true false most N.length = false := by rw [H0.out.2.1]; simp [opOf]; try omega
        have HF : Hid (∀ (g : Int) (F : List ByteArray) (o : Bool) (v : Value), Turn g generation F N o after v true N generation none) := fun g F o v => .inl ⟨he, rfl, rfl, rfl, rfl⟩
        go_wp2_with fail
        refine (zzadd_any gb w4.heap.size gen generation (.slice a5 n c5) G op false after a4 n' c4 N most _ HS6.out.1 HS6.out.2.1 hs6 true N generation none (HF.out _ _ _ _) H0.out.2.1 (HS4.out.2.1.below HS6.out.2.2.1) hn' HS4.out.2.2.2.1 (by rw [H0.out.1]; omega)).mono ?_
        rintro e w7 ⟨v7, hA7, hN7⟩
        have he7 : e = .returned (.tuple #[v7, .bool true]) := by rw [hA7.he, hok]; rfl
        have hg7 := hA7.hg
        rw [hop7] at hg7
        have HS7 : Hid (GB w7 gb (.int .u64 generation) v7 (.bool false) ∧ Own w7 w4.heap.size v7 N ∧ Below w4.heap.size w4 w7 ∧ (N).length ≤ 1048576) := ⟨hg7, hA7.own, Keep.below HS6.out.2.2.1 (Nat.le_refl _) hA7.keep HS6.out.2.2.2 (fun k hk => by cases hk), by rw [H0.out.2.1]; omega⟩
        subst he7
        have HOK : Hid (okOf true false most N.length = true ∧ opOf true false most N.length = false) := ⟨hok, hop7⟩
        obtain ⟨a7, c7, hv7, s7, z7, _⟩ := HS7.out.2.1.at
        rw [H0.out.2.1] at hv7 s7
        subst hv7
        have hi7 : a7.isNone = a4.isNone := nil_same H0.out.2.1 (hN7 he) z7
        have HX : Hid (StrsAt w7 a7 n' (get N)) := s7
        clear hg7 hA7 hN7 hok hop7 s7 z7
        go_wp2_with fail
        refine (equal_any a7 a4 n' c7 n' c4 (get N) (get N) _ HX.out (HS4.out.2.1.below HS7.out.2.2.1) (by omega) rfl (fun _ _ => rfl)).mono ?_
        rintro e w8 ⟨rfl, hd8⟩
        have HS8 : Hid (GB w8 gb (.int .u64 generation) (.slice a7 n' c7) (.bool false) ∧ Own w8 w4.heap.size (.slice a7 n' c7) N ∧ Below w4.heap.size w4 w8 ∧ N.length ≤ 1048576) :=
          ⟨HS7.out.1.drewD hd8, HS7.out.2.1.drewD hd8, HS7.out.2.2.1.trans (hd8.below _), HS7.out.2.2.2⟩
        clear hd8 HX HS7
        go_wp2_with fail
        refine (zzadd_any gb w4.heap.size generation generation (.slice a7 n' c7) N false false after a4 n' c4 N most _ HS8.out.1 HS8.out.2.1 HS8.out.2.2.1.size true N generation none (HF.out _ _ _ _) H0.out.2.1 (HS4.out.2.1.below HS8.out.2.2.1) hn' HS4.out.2.2.2.1 HS8.out.2.2.2).mono ?_
        rintro e w9 ⟨v9, hA9, hN9⟩
        have he9 : e = .returned (.tuple #[v9, .bool true]) := by rw [hA9.he, HOK.out.1]; rfl
        obtain ⟨a9, c9, hv9, s9, z9, _⟩ := hA9.own.at
        rw [H0.out.2.1] at hv9 s9
        subst hv9
        have hi9 : a9.isNone = a4.isNone := nil_same H0.out.2.1 (hN9 he) z9
        have hk7 : Own w9 w4.heap.size (.slice a7 n' c7) N := HS8.out.2.1.keep HS8.out.1 hA9.keep (by cases h : Value.ownBlock (.slice a7 n' c7) <;> simp)
        obtain ⟨a7', c7', hv7', s7', _⟩ := hk7.at
        rw [H0.out.2.1] at hv7' s7'
        obtain ⟨rfl, _, rfl⟩ : a7 = a7' ∧ n' = n' ∧ c7 = c7' := by simpa using hv7'
        have HS9 : Hid (Below w4.heap.size w4 w9 ∧ StrsAt w9 a9 n' (get N) ∧ StrsAt w9 a7 n' (get N)) := ⟨Keep.below HS8.out.2.2.1 (Nat.le_refl _) hA9.keep HS6.out.2.2.2 (fun k hk => by cases hk), s9, s7'⟩
        have r7 := eql_nil a7 n' c7 a4.isNone hi7
        have r9 := eql_nil a9 n' c9 a4.isNone hi9
        subst he9
        clear hA9 hN9 s9 z9 hk7 hv7' s7' hi7 hi9 HS8
        generalize a4.isNone = zz at r7 r9
        go_wp2_with fail
        refine (equal_any a9 a7 n' c9 n' c7 (get N) (get N) _ HS9.out.2.1 HS9.out.2.2 (by omega) rfl (fun _ _ => rfl)).mono ?_
        rintro e w10 ⟨rfl, hd10⟩
        have HS10 : Hid (Below w4.heap.size w4 w10) := HS9.out.1.trans (hd10.below _)
        clear hd10 HS9
        cases zz
        · go_wp2
          go_ret
          exact ⟨rfl, HS4.out.2.2.2.2.trans (HS10.out.mono HS4.out.2.2.2.2.size)⟩
        · go_wp2
          go_ret
          exact ⟨rfl, HS4.out.2.2.2.2.trans (HS10.out.mono HS4.out.2.2.2.2.size)⟩
      · have hok : okOf true true most N.length = false := by rw [H0.out.2.1]; simp [okOf]; try omega
        have hop7 : opOf true true most N.length = true := by rw [H0.out.2.1]; simp [opOf]; try omega
        have HF : Hid (∀ (g : Int) (F : List ByteArray) (o : Bool) (v : Value), Turn g generation F N o after v true N generation none) := fun g F o v => .inl ⟨he, rfl, rfl, rfl, rfl⟩
        go_wp2_with fail
        refine (zzadd_any gb w4.heap.size gen generation (.slice a5 n c5) G op true after a4 n' c4 N most _ HS6.out.1 HS6.out.2.1 hs6 true N generation none (HF.out _ _ _ _) H0.out.2.1 (HS4.out.2.1.below HS6.out.2.2.1) hn' HS4.out.2.2.2.1 (by rw [H0.out.1]; omega)).mono ?_
        rintro e w7 ⟨v7, hA7, hN7⟩
        have he7 : e = .returned (.tuple #[.slice none 0 0, .bool false]) := by rw [hA7.he, hok]; rfl
        have hg7 := hA7.hg
        rw [hop7] at hg7
        have HS7 : Hid (GB w7 gb (.int .u64 generation) v7 (.bool true) ∧ Own w7 w4.heap.size v7 N ∧ Below w4.heap.size w4 w7 ∧ (N).length ≤ 1048576) := ⟨hg7, hA7.own, Keep.below HS6.out.2.2.1 (Nat.le_refl _) hA7.keep HS6.out.2.2.2 (fun k hk => by cases hk), by rw [H0.out.2.1]; omega⟩
        subst he7
        have HOK : Hid (okOf true true most N.length = false) := hok
        clear hg7 hA7 hN7 hok hop7
        go_wp2_with fail
        refine (zzadd_any gb w4.heap.size generation generation v7 N true true after a4 n' c4 N most _ HS7.out.1 HS7.out.2.1 HS7.out.2.2.1.size true N generation none (HF.out _ _ _ _) H0.out.2.1 (HS4.out.2.1.below HS7.out.2.2.1) hn' HS4.out.2.2.2.1 HS7.out.2.2.2).mono ?_
        rintro e w9 ⟨v9, hA9, _⟩
        have he9 : e = .returned (.tuple #[.slice none 0 0, .bool false]) := by rw [hA9.he, HOK.out]; rfl
        have HS9 : Hid (Below w4.heap.size w4 w9) := Keep.below HS7.out.2.2.1 (Nat.le_refl _) hA9.keep HS6.out.2.2.2 (fun k hk => by cases hk)
        subst he9
        clear hA9
        go_wp2_with fail
        refine (equal_any none none 0 0 0 0 (get []) (get []) _ (StrsAt.zero _ _ _) (StrsAt.zero _ _ _) (by omega) rfl (fun _ _ => rfl)).mono ?_
        rintro e w10 ⟨rfl, hd10⟩
        have HS10 : Hid (Below w4.heap.size w4 w10) := HS9.out.trans (hd10.below _)
        clear hd10 HS9
        go_wp2
        go_ret
        exact ⟨rfl, HS4.out.2.2.2.2.trans (HS10.out.mono HS4.out.2.2.2.2.size)⟩

end Go.Proofs.Qxb6602261a.Nm
