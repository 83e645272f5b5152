/- The walk of FnKindSentByCountsOverAConfiguration. -/
import Derived.Test.Qxb6601217aProg
import Derived.WalkKit
import Derived.WalkSpells
namespace Go.Proofs.Qxb6601217a.Kd
open Go.RowKit

/-! ### The plain law -/
def sentB (s p m : Int) : Bool := if s = 2 then true else if s = 3 then decide (0 < p) else if s = 4 then decide (p < m - 1) else false
def cnt (s m : Int) : Nat → Nat
  | 0 => 0
  | k + 1 => cnt s m k + (if sentB s k m = true then 1 else 0)

theorem cnt_le (s m : Int) (k : Nat) : cnt s m k ≤ k := by
  induction k with
  | zero => exact Nat.le_refl _
  | succ k ih => unfold cnt; split <;> omega
theorem cnt_two (m : Int) (k : Nat) : cnt 2 m k = k := by
  induction k with
  | zero => rfl
  | succ k ih => unfold cnt; rw [ih]; simp [sentB]
theorem cnt_three (m : Int) (k : Nat) : cnt 3 m k = k - 1 := by
  induction k with
  | zero => rfl
  | succ k ih =>
    unfold cnt
    rw [ih]
    by_cases h : 0 < k
    · have : sentB 3 k m = true := by simp [sentB]; omega
      rw [this]; simp; omega
    · have : sentB 3 k m = false := by simp [sentB]; omega
      rw [this]; simp; omega
theorem cnt_four (m k : Nat) : cnt 4 m k = min k (m - 1) := by
  induction k with
  | zero => simp [cnt]
  | succ k ih =>
    unfold cnt
    rw [ih]
    by_cases h : k < m - 1
    · have : sentB 4 k m = true := by simp [sentB]; omega
      simp only [this, if_true]; omega
    · have : sentB 4 k m = false := by simp [sentB]; omega
      simp only [this, Bool.false_eq_true, if_false]; omega
theorem cnt_other (s m : Int) (h2 : s ≠ 2) (h3 : s ≠ 3) (h4 : s ≠ 4) (k : Nat) : cnt s m k = 0 := by
  induction k with
  | zero => rfl
  | succ k ih => unfold cnt; rw [ih]; simp [sentB, h2, h3, h4]

/-! ### The walks -/
def SomeBool (e : Ending) : Prop := ∃ b, e = .returned (.bool b)

theorem bytes_any (s : ByteArray) (x y z : Int) (w : World) (h : s.size ≤ maxLen) :
    Calls Try.prog 14 #[.string s, .int .i64 x, .int .i64 y, .int .i64 z] w fun e w' => SomeBool e ∧ w' = w := by
  unfold maxLen at h
  by_cases hl : s.size ≤ 1048576
  · go_enter Try.func14, Try.ntmps14
    go_wp2
    go_ret
    exact ⟨⟨_, rfl⟩, rfl⟩
  · go_enter Try.func14, Try.ntmps14
    go_wp2
    go_ret
    exact ⟨⟨_, rfl⟩, rfl⟩

theorem kind_any (s : ByteArray) (x y : Int) (w : World) :
    Calls Try.prog 15 #[.string s, .int .i64 x, .int .i64 y] w fun e w' => e = .returned (.agg #[.string s, .int .i64 x, .int .i64 y, .slice none 0 0]) ∧ Below w.heap.size w w' := by
  go_enter Try.func15, Try.ntmps15
  go_wp2
  exact bodyPost_ret (v := .agg #[.string s, .int .i64 x, .int .i64 y, .slice none 0 0]) (by simp [results, Try.results15, go_sem]) rfl ⟨rfl, (Below.refl _ _).alloc (Nat.le_refl _) _⟩

theorem sent_any (s : ByteArray) (x y p m : Int) (w : World) (hm : 1 ≤ m) (hm2 : m ≤ 65536) :
    Calls Try.prog 16 #[.agg #[.string s, .int .i64 x, .int .i64 y, .slice none 0 0], .int .i64 p, .int .i64 m] w fun e w' => e = .returned (.bool (sentB x p m)) ∧ Below w.heap.size w w' := by
  obtain ⟨b, hb⟩ : ∃ b, sentB x p m = b := ⟨_, rfl⟩
  rw [hb]
  by_cases h2 : x = 2
  · subst h2
    have hb' : b = true := by rw [← hb]; simp [sentB]
    subst hb'
    clear hb
    go_enter Try.func16, Try.ntmps16
    go_wp2
    go_ret
    exact ⟨rfl, (Below.refl _ _).alloc (Nat.le_refl _) _⟩
  · by_cases h3 : x = 3
    · subst h3
      have hb' : b = decide (0 < p) := by rw [← hb]; simp [sentB]
      subst hb'
      clear hb h2
      go_enter Try.func16, Try.ntmps16
      go_wp2
      go_ret
      exact ⟨rfl, (Below.refl _ _).alloc (Nat.le_refl _) _⟩
    · by_cases h4 : x = 4
      · subst h4
        have hb' : b = decide (p < m - 1) := by rw [← hb]; simp [sentB]
        subst hb'
        clear hb h2 h3
        go_enter Try.func16, Try.ntmps16
        go_wp2
        go_ret
        exact ⟨rfl, (Below.refl _ _).alloc (Nat.le_refl _) _⟩
      · have hb' : b = false := by rw [← hb]; simp [sentB, h2, h3, h4]
        subst hb'
        have g2 : (x == 2) = false := by simp [h2]
        have g3 : (x == 3) = false := by simp [h3]
        have g4 : (x == 4) = false := by simp [h4]
        clear hb h2 h3 h4
        go_enter Try.func16, Try.ntmps16
        go_wp2
        go_ret
        exact ⟨rfl, (Below.refl _ _).alloc (Nat.le_refl _) _⟩

/-- What the law's switch wants. -/
def wantOf (s : Int) (m : Nat) : Nat := if s = 2 then m else if s = 3 ∨ s = 4 then m - 1 else 0
theorem cnt_want (s : Int) (m : Nat) : cnt s m m = wantOf s m := by
  unfold wantOf
  by_cases h2 : s = 2
  · subst h2; rw [cnt_two]; rfl
  · by_cases h3 : s = 3
    · subst h3; rw [cnt_three]; simp
    · by_cases h4 : s = 4
      · subst h4; rw [cnt_four]; simp
      · rw [cnt_other s m h2 h3 h4]; simp [h2, h3, h4]

/-- Block kb holds a kind's four cells. -/
def KB (w : World) (kb : Nat) (s : ByteArray) (x y : Int) : Prop := w.heap[kb]? = some (.cells #[.string s, .int .i64 x, .int .i64 y, .slice none 0 0] 46 (0, 0))
theorem KB.c0 {w : World} {kb : Nat} {s : ByteArray} {x y : Int} (h : KB w kb s x y) : w.cell? ⟨kb, 0, none⟩ = some (.string s) := by unfold KB at h; simp [World.cell?, h]
theorem KB.c1 {w : World} {kb : Nat} {s : ByteArray} {x y : Int} (h : KB w kb s x y) : w.cell? ⟨kb, 1, none⟩ = some (.int .i64 x) := by unfold KB at h; simp [World.cell?, h]
theorem KB.c2 {w : World} {kb : Nat} {s : ByteArray} {x y : Int} (h : KB w kb s x y) : w.cell? ⟨kb, 2, none⟩ = some (.int .i64 y) := by unfold KB at h; simp [World.cell?, h]
theorem KB.c3 {w : World} {kb : Nat} {s : ByteArray} {x y : Int} (h : KB w kb s x y) : w.cell? ⟨kb, 3, none⟩ = some (.slice none 0 0) := by unfold KB at h; simp [World.cell?, h]
theorem KB.below {w w' : World} {kb : Nat} {s : ByteArray} {x y : Int} (h : KB w kb s x y) (hb : Below w.heap.size w w') : KB w' kb s x y := (hb.block kb (Array.getElem?_eq_some_iff.1 h).1).trans h

set_option maxHeartbeats 2000000 in
theorem counts_some (s : ByteArray) (x y : Int) (m : Nat) (w : World) (hs : s.size ≤ maxLen) (hm : 1 ≤ m) (hm2 : m ≤ 65536) :
    Calls Try.prog 5 #[.string s, .int .i64 x, .int .i64 y, .int .i64 m] w fun e w' => e = .returned (.bool true) ∧ Below w.heap.size w w' := by
  have HS : Hid (s.size ≤ maxLen) := hs
  unfold maxLen at hs
  go_enter Try.func5, Try.ntmps5
  go_wp2_with fail
  refine (bytes_any _ _ _ _ _ HS.out).mono ?_
  rintro e w ⟨⟨bb, rfl⟩, rfl⟩
  cases bb
  · go_wp2_with fail
    go_ret
    exact ⟨rfl, Below.refl _ _⟩
  by_cases hl : s.size ≤ 1048576
  case neg =>
    go_wp2_with fail
    go_ret
    exact ⟨rfl, Below.refl _ _⟩
  go_wp2_with fail
  refine (kind_any _ _ _ _).mono ?_
  rintro e w1 ⟨rfl, hbel1⟩
  go_wp2_with fail
  have hk1 : KB (w1.alloc (.cells #[.string s, .int .i64 x, .int .i64 y, .slice none 0 0] 46)) w1.heap.size s x y := heap_alloc_new w1 _
  have hb1 : Below w.heap.size w (w1.alloc (.cells #[.string s, .int .i64 x, .int .i64 y, .slice none 0 0] 46)) := hbel1.alloc hbel1.size _
  clear hbel1
  generalize w1.alloc (.cells #[.string s, .int .i64 x, .int .i64 y, .slice none 0 0] 46) = w2 at *
  generalize w1.heap.size = kb at *
  go_loopw [10, 11] (fun t i wr => ∃ k c : Nat, k ≤ m ∧ c ≤ k ∧ i = .int .i64 k ∧ t = .int .i64 c ∧ Hid (c = cnt x m k) ∧ KB wr kb s x y ∧ Below w.heap.size w wr) (fun _ i _ => m - (intOf i).toNat)
  case atStart => exact ⟨0, 0, Nat.zero_le _, Nat.le_refl _, rfl, rfl, rfl, hk1, hb1⟩
  case round =>
    clear hk1 hb1
    obtain ⟨k, c, hk, hck, rfl, rfl, HC, hkb, hbel⟩ := hrel
    by_cases hlt : k < m
    · have k0 := hkb.c0
      have k1 := hkb.c1
      have k2 := hkb.c2
      have k3 := hkb.c3
      have HN : Hid (cnt x m (k + 1) = c + (if sentB x k m = true then 1 else 0)) := by rw [HC.out]; rfl
      cases hb : sentB x k m
      · rw [hb] at HN
        go_wp2_with fail
        refine (sent_any s x y k m _ (by omega) (by omega)).mono ?_
        rintro e w3 ⟨rfl, hbel3⟩
        have HR : Hid (KB w3 kb s x y ∧ Below w.heap.size w w3) := ⟨hkb.below hbel3, hbel.trans (hbel3.mono hbel.size)⟩
        clear hbel3 hbel hkb k0 k1 k2 k3
        go_wp2
        go_roundw
        case rel => exact ⟨k + 1, c, by omega, by omega, by go_num, rfl, by rw [HN.out]; simp [Hid], HR.out.1, HR.out.2⟩
        case measure => simp [intOf]; omega
      · rw [hb] at HN
        go_wp2_with fail
        refine (sent_any s x y k m _ (by omega) (by omega)).mono ?_
        rintro e w3 ⟨rfl, hbel3⟩
        have HR : Hid (KB w3 kb s x y ∧ Below w.heap.size w w3) := ⟨hkb.below hbel3, hbel.trans (hbel3.mono hbel.size)⟩
        clear hbel3 hbel hkb k0 k1 k2 k3
        go_wp2
        go_roundw
        case rel => exact ⟨k + 1, c + 1, by omega, by omega, by go_num, by go_num, by rw [HN.out]; simp [Hid], HR.out.1, HR.out.2⟩
        case measure => simp [intOf]; omega
    · have e : k = m := by omega
      subst e
      have hcw : c = wantOf x k := by rw [HC.out, cnt_want]
      clear HC hkb
      by_cases h2 : x = 2
      · subst h2
        have e : c = k := by rw [hcw]; rfl
        subst e
        clear hcw
        go_wp2
        go_ret
        exact ⟨by simp, hbel⟩
      · by_cases h3 : x = 3
        · subst h3
          have e : c = k - 1 := by rw [hcw]; rfl
          obtain ⟨q, rfl⟩ : ∃ q, k = q + 1 := ⟨k - 1, by omega⟩
          have e2 : c = q := by omega
          subst e2
          clear hcw h2 e
          go_wp2
          go_ret
          exact ⟨by simp, hbel⟩
        · by_cases h4 : x = 4
          · subst h4
            have e : c = k - 1 := by rw [hcw]; rfl
            obtain ⟨q, rfl⟩ : ∃ q, k = q + 1 := ⟨k - 1, by omega⟩
            have e2 : c = q := by omega
            subst e2
            clear hcw h2 h3 e
            go_wp2
            go_ret
            exact ⟨by simp, hbel⟩
          · have e : c = 0 := by rw [hcw]; simp [wantOf, h2, h3, h4]
            subst e
            have g2 : (x == 2) = false := by simp [h2]
            have g3 : (x == 3) = false := by simp [h3]
            have g4 : (x == 4) = false := by simp [h4]
            clear hcw h2 h3 h4
            go_wp2
            go_ret
            exact ⟨by simp, hbel⟩

/-- .. where the law answers at once. -/
theorem counts_edge (s : ByteArray) (x y m : Int) (w : World) (hs : s.size ≤ maxLen) (hm : m < 1 ∨ 65536 < m) :
    Calls Try.prog 5 #[.string s, .int .i64 x, .int .i64 y, .int .i64 m] w fun e w' => e = .returned (.bool true) ∧ Below w.heap.size w w' := by
  have HS : Hid (s.size ≤ maxLen) := hs
  unfold maxLen at hs
  by_cases hl : s.size ≤ 1048576
  · rcases hm with hm | hm
    all_goals
      go_enter Try.func5, Try.ntmps5
      go_wp2_with fail
      refine (bytes_any _ _ _ _ _ HS.out).mono ?_
      rintro e w ⟨⟨bb, rfl⟩, rfl⟩
      cases bb
      · go_wp2_with fail
        go_ret
        exact ⟨rfl, Below.refl _ _⟩
      go_wp2_with fail
      go_ret
      exact ⟨rfl, Below.refl _ _⟩
  · clear hm
    go_enter Try.func5, Try.ntmps5
    go_wp2_with fail
    refine (bytes_any _ _ _ _ _ HS.out).mono ?_
    rintro e w ⟨⟨bb, rfl⟩, rfl⟩
    cases bb
    · go_wp2_with fail
      go_ret
      exact ⟨rfl, Below.refl _ _⟩
    go_wp2_with fail
    go_ret
    exact ⟨rfl, Below.refl _ _⟩

end Go.Proofs.Qxb6601217a.Kd
