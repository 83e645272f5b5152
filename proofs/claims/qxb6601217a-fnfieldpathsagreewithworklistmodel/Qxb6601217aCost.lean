/- The walks that only read a tree: faultsJoinLen, faultsJoin, faultsNodeBytes, faultsUnfoldCost. -/
import Derived.Test.Qxb6601217aTree
import Derived.Deep.QuietTactic
import Derived.BigQuiet
namespace Go.Proofs.Qxb6601217a.Tr
open Go.RowKit

theorem joinLen_any (p : Nat) (s : ByteArray) (w : World) (hp : p ≤ 2097152) (hs : s.size ≤ 2097152) :
    Calls Try.prog 24 #[.int .i64 p, .string s] w fun e w' => e = .returned (.int .i64 (joinL p s)) ∧ w' = w := by
  by_cases h0 : p = 0
  · have e : joinL p s = s.size := by unfold joinL; rw [if_pos h0]
    rw [e]
    subst h0
    go_enter Try.func24, Try.ntmps24
    go_wp2
    go_ret
    exact ⟨rfl, rfl⟩
  · by_cases h1 : s.size = 0
    · have e : joinL p s = p := by unfold joinL; rw [if_neg h0, if_pos h1]
      rw [e]
      go_enter Try.func24, Try.ntmps24
      go_wp2
      go_ret
      exact ⟨rfl, rfl⟩
    · have e : joinL p s = p + 1 + s.size := by unfold joinL; rw [if_neg h0, if_neg h1]
      rw [e]
      go_enter Try.func24, Try.ntmps24
      go_wp2
      go_ret
      exact ⟨by go_num, rfl⟩

theorem isE_no {s : ByteArray} (h : s ≠ ByteArray.empty) : s.toList.isEmpty = false := by
  rw [← decide_eq_emptyBytes]
  exact decide_eq_false h
theorem join_any (p s : ByteArray) (w : World) (hp : p.size ≤ 4194304) (hs : s.size ≤ 4194304) :
    Calls Try.prog 23 #[.string p, .string s] w fun e w' => e = .returned (.string (join p s)) ∧ w' = w := by
  by_cases h0 : p = ByteArray.empty
  · have e : join p s = s := by unfold join; rw [if_pos h0]
    rw [e]
    subst h0
    go_enter Try.func23, Try.ntmps23
    go_wp2
    go_ret
    exact ⟨rfl, rfl⟩
  · by_cases h1 : s = ByteArray.empty
    · have e : join p s = p := by unfold join; rw [if_neg h0, if_pos h1]
      rw [e]
      have h0' := isE_no h0
      subst h1
      go_enter Try.func23, Try.ntmps23
      go_wp2
      go_ret
      exact ⟨rfl, rfl⟩
    · have e : join p s = p ++ dot ++ s := by unfold join; rw [if_neg h0, if_neg h1]
      rw [e]
      have h0' := isE_no h0
      have h1' := isE_no h1
      go_enter Try.func23, Try.ntmps23
      go_wp2
      go_ret
      exact ⟨rfl, rfl⟩

/-- Some int, not above the budget. -/
def SomeInt (e : Ending) : Prop := ∃ r : Int, e = .returned (.int .i64 r) ∧ r ≤ 1048576

/-- What the row of a node's fields holds. -/
def Kids (S : Nat → Prop) (w : World) (d : Nat) (L : List (T d)) (a : Option Addr) : Prop :=
  ∀ i, (hi : i < L.length) → ∃ b o, a = some ⟨b, o, none⟩ ∧ S b ∧ ∃ x y z, w.cell? ⟨b, o + i * 3, none⟩ = some x ∧ w.cell? ⟨b, o + i * 3 + 1, none⟩ = some y ∧ w.cell? ⟨b, o + i * 3 + 2, none⟩ = some z ∧ Fits S w d L[i] x y z
theorem Kids.move {S S' : Nat → Prop} {w w' : World} {d : Nat} {L : List (T d)} {a : Option Addr} (h : Kids S w d L a) (hw : ∀ b, S b → b < w.heap.size → S' b ∧ w'.heap[b]? = w.heap[b]?) : Kids S' w' d L a := by
  intro i hi
  obtain ⟨b, o, ha, hs, x, y, z, hx, hy, hz, hf⟩ := h i hi
  obtain ⟨hs', hk⟩ := hw b hs (World.block_lt_of_cell? w _ hx)
  refine ⟨b, o, ha, hs', x, y, z, ?_, ?_, ?_, hf.move hw⟩
  · rw [← hx]; simp only [World.cell?, hk]
  · rw [← hy]; simp only [World.cell?, hk]
  · rw [← hz]; simp only [World.cell?, hk]
theorem Kids.below {S : Nat → Prop} {w w' : World} {d : Nat} {L : List (T d)} {a : Option Addr} (h : Kids S w d L a) (hb : Below w.heap.size w w') : Kids S w' d L a :=
  h.move fun b hs hl => ⟨hs, hb.block b hl⟩
theorem Fits.open {S : Nat → Prop} {w : World} {d : Nat} {t : T (d + 1)} {x y z : Value} (h : Fits S w (d + 1) t x y z) :
    ∃ a c, x = .string (nm t) ∧ y = .int .i64 (vl t) ∧ z = .slice a (ks t).length c ∧ (nm t).size ≤ maxLen ∧ (a = none → (ks t).length = 0 ∧ c = 0) ∧ (ks t).length ≤ maxLen ∧ Kids S w d (ks t) a := by
  obtain ⟨h1, h2, h3, a, c, h4, h5, h6, h7⟩ := h
  exact ⟨a, c, h1, h3, h4, h2, h5, h6, h7⟩
theorem Fits.shut {S : Nat → Prop} {w : World} {d : Nat} {t : T (d + 1)} {a : Option Addr} {c : Nat} (h2 : (nm t).size ≤ maxLen) (h5 : a = none → (ks t).length = 0 ∧ c = 0) (h6 : (ks t).length ≤ maxLen) (h7 : Kids S w d (ks t) a) :
    Fits S w (d + 1) t (.string (nm t)) (.int .i64 (vl t)) (.slice a (ks t).length c) := ⟨rfl, h2, rfl, a, c, rfl, h5, h6, h7⟩

/-- The box of a parameter, or a variable: three cells. -/
def Box (w : World) (b : Nat) (x y z : Value) : Prop := w.cell? ⟨b, 0, none⟩ = some x ∧ w.cell? ⟨b, 1, none⟩ = some y ∧ w.cell? ⟨b, 2, none⟩ = some z
theorem Box.below {w w' : World} {b B : Nat} {x y z : Value} (h : Box w b x y z) (hb : Below B w w') (hB : b < B) : Box w' b x y z := by
  refine ⟨?_, ?_, ?_⟩
  · rw [hb.cell (p := ⟨b, 0, none⟩) hB]; exact h.1
  · rw [hb.cell (p := ⟨b, 1, none⟩) hB]; exact h.2.1
  · rw [hb.cell (p := ⟨b, 2, none⟩) hB]; exact h.2.2
theorem Box.new (w : World) (x y z : Value) (t : TypeId) : Box (w.alloc (.cells #[x, y, z] t)) w.heap.size x y z := by
  refine ⟨?_, ?_, ?_⟩ <;> (unfold World.cell?; rw [heap_alloc_new]; rfl)

def BytesAt (d : Nat) : Prop := ∀ (t : T d) (x y z : Value) (r : Int) (S : Nat → Prop) (w : World), Fits S w d t x y z → r ≤ 1048576 →
    Calls Try.prog 19 #[.agg #[x, y, z], .int .i64 r] w fun e w' => SomeInt e ∧ Below w.heap.size w w'
set_option maxHeartbeats 1000000 in
theorem bytes_step (d : Nat) (ih : Hid (BytesAt d)) : BytesAt (d + 1) := by
    intro t x y z r S w h hr
    obtain ⟨a, c, rfl, rfl, rfl, h2, h5, h6, h7⟩ := h.open
    have H7 : Hid _ := h7
    clear h7 h5 h
    generalize nm t = s at *
    generalize vl t = v at *
    generalize ks t = L at *
    unfold maxLen at *
    have HL : Hid (∃ n, n = L.length) := ⟨_, rfl⟩
    obtain ⟨n, hn⟩ := HL.out
    have HN : Hid (n = L.length) := hn
    rw [← hn] at h6
    rw [← hn]
    clear hn HL
    by_cases h0 : r < 0
    · go_enter Try.func19, Try.ntmps19
      go_wp2
      go_ret
      exact ⟨⟨_, rfl, by omega⟩, (Below.refl _ _).alloc (Nat.le_refl _) _⟩
    by_cases h1 : 1048576 < s.size
    · go_enter Try.func19, Try.ntmps19
      go_wp2
      go_ret
      exact ⟨⟨_, rfl, by omega⟩, (Below.refl _ _).alloc (Nat.le_refl _) _⟩
    by_cases h3 : 1048576 < n
    · go_enter Try.func19, Try.ntmps19
      go_wp2
      go_ret
      exact ⟨⟨_, rfl, by omega⟩, (Below.refl _ _).alloc (Nat.le_refl _) _⟩
    by_cases h4 : 1048576 < r + (s.size + 48 * n)
    · go_enter Try.func19, Try.ntmps19
      go_wp2
      go_ret
      exact ⟨⟨_, rfl, by omega⟩, (Below.refl _ _).alloc (Nat.le_refl _) _⟩
    go_enter Try.func19, Try.ntmps19
    go_wp2
    have hbox := Box.new w (.string s) (.int .i64 v) (.slice a n c) 24
    have hal : Hid (Below w.heap.size w (w.alloc (.cells #[.string s, .int .i64 v, .slice a n c] 24))) := (Below.refl _ _).alloc (Nat.le_refl _) _
    have hlt : w.heap.size < (w.alloc (.cells #[.string s, .int .i64 v, .slice a n c] 24)).heap.size := by simp
    generalize w.alloc (.cells #[.string s, .int .i64 v, .slice a n c] 24) = w1 at *
    go_loopw [1, 5] (fun u i wr => ∃ (k : Nat) (r : Int), k ≤ n ∧ i = .int .i64 k ∧ u = .int .i64 r ∧ r ≤ 1048576 ∧ Below w1.heap.size w1 wr) (fun _ i _ => n - (intOf i).toNat)
    case atStart => exact ⟨0, _, Nat.zero_le _, rfl, rfl, by omega, Below.refl _ _⟩
    case round =>
      obtain ⟨k, r', hk, rfl, rfl, hr', hbel⟩ := hrel
      obtain ⟨hb0, hb1, hb2⟩ := hbox.below hbel hlt
      have hbel' : Hid (Below w.heap.size w wr) := hal.out.trans (hbel.mono (by have := hal.out.size; omega))
      by_cases hlt : k < n
      · obtain ⟨b, o, rfl, hS, x, y, z, hx, hy, hz, hf⟩ := (show Kids S w d L a from H7.out).below hbel'.out k (by rw [← HN.out]; exact hlt)
        have hf' : Hid _ := hf
        clear hf hS
        go_wp2_with fail
        refine (ih.out _ _ _ _ _ _ _ hf'.out hr').mono ?_
        rintro e w2 ⟨⟨r2, rfl, hr2⟩, hb2'⟩
        have hbel2 : Hid (Below w1.heap.size w1 w2) := hbel.trans (hb2'.mono hbel.size)
        clear hb2' hbel
        by_cases h0 : r2 < 0
        · go_wp2
          go_ret
          exact ⟨⟨_, rfl, by omega⟩, hal.out.trans (hbel2.out.mono (by have := hal.out.size; omega))⟩
        · go_wp2
          go_roundw
          case rel => exact ⟨k + 1, r2, by omega, by go_num, rfl, hr2, hbel2.out⟩
          case measure => simp [intOf]; omega
      · go_wp2
        go_ret
        exact ⟨⟨_, rfl, hr'⟩, hbel'.out⟩
theorem bytes_any : ∀ d, BytesAt d
  | 0 => fun t => Empty.elim t
  | d + 1 => bytes_step d (bytes_any d)

/-! ### faultsUnfoldCost -/
/-- The cost, or -1. -/
def CostIs (used tot : Nat) (e : Ending) : Prop := e = .returned (.int .i64 (-1)) ∨ e = .returned (.int .i64 ((used + tot : Nat) : Int)) ∧ used + tot ≤ 1048576
def CostAt (d : Nat) : Prop := ∀ (t : T d) (x y z : Value) (p used : Nat) (S : Nat → Prop) (w : World), Fits S w d t x y z → p ≤ 1048582 → used ≤ 1048576 →
    Calls Try.prog 20 #[.agg #[x, y, z], .int .i64 p, .int .i64 used] w fun e w' => CostIs used (total d t p) e ∧ Below w.heap.size w w'
set_option maxHeartbeats 1000000 in
theorem cost_step (d : Nat) (ih : Hid (CostAt d)) : CostAt (d + 1) := by
  intro t x y z p used S w h hp hu
  obtain ⟨a, c, rfl, rfl, rfl, h2, h5, h6, h7⟩ := h.open
  have H7 : Hid _ := h7
  have HT : Hid _ := total_eq d t p
  clear h7 h5 h
  generalize total (d + 1) t p = tot at *
  generalize nm t = s at *
  generalize vl t = v at *
  generalize ks t = L at *
  unfold maxLen at *
  have HL : Hid (∃ n, n = L.length) := ⟨_, rfl⟩
  obtain ⟨n, hn⟩ := HL.out
  have HN : Hid (n = L.length) := hn
  rw [← hn] at h6
  rw [← hn]
  clear hn HL
  by_cases h0 : 1048576 < p
  · go_enter Try.func20, Try.ntmps20
    go_wp2
    go_ret
    exact ⟨.inl rfl, (Below.refl _ _).alloc (Nat.le_refl _) _⟩
  by_cases h1 : 1048576 < s.size
  · go_enter Try.func20, Try.ntmps20
    go_wp2
    go_ret
    exact ⟨.inl rfl, (Below.refl _ _).alloc (Nat.le_refl _) _⟩
  have hq : joinL p s ≤ p + 1 + s.size := by unfold joinL; split <;> (try split) <;> omega
  by_cases h3 : 1048576 < used + (1 + joinL p s)
  · go_enter Try.func20, Try.ntmps20
    go_wp2_with fail
    refine (joinLen_any _ _ _ (by omega) (by omega)).mono ?_
    rintro e w2 ⟨rfl, rfl⟩
    go_wp2
    go_ret
    exact ⟨.inl rfl, (Below.refl _ _).alloc (Nat.le_refl _) _⟩
  by_cases hv : v = 4
  · have HT' : Hid (tot = 1 + joinL p s + 2 * sumK d L (joinL p s + 6)) := by have h := HT.out; rw [if_pos hv] at h; unfold Hid; omega
    have hq2 : joinL p s + 6 ≤ 1048582 := by omega
    clear HT
    have hg1 : decide ((used : Int) < 0) = false := decide_eq_false (by omega)
    have hg2 : decide ((1048576 : Int) < (p : Int)) = false := decide_eq_false (by omega)
    have hg3 : decide ((1048576 : Int) < (s.size : Int)) = false := decide_eq_false (by omega)
    subst hv
    go_enter Try.func20, Try.ntmps20
    go_wp2_with fail
    refine (joinLen_any _ _ _ (by omega) (by omega)).mono ?_
    rintro e w2 ⟨rfl, rfl⟩
    generalize joinL p s = q at *
    have hg4 : decide ((1048576 : Int) < (used : Int) + (1 + (q : Int))) = false := decide_eq_false (by omega)
    go_wp2
    have hbox := Box.new w (.string s) (.int .i64 4) (.slice a n c) 24
    have hal : Hid (Below w.heap.size w (w.alloc (.cells #[.string s, .int .i64 4, .slice a n c] 24))) := (Below.refl _ _).alloc (Nat.le_refl _) _
    have hlt : w.heap.size < (w.alloc (.cells #[.string s, .int .i64 4, .slice a n c] 24)).heap.size := by simp
    generalize w.alloc (.cells #[.string s, .int .i64 4, .slice a n c] 24) = w1 at *
    go_loopw [2, 10] (fun u cc wr => ∃ k r : Nat, k ≤ 2 ∧ cc = .int .i64 k ∧ u = .int .i64 r ∧ r ≤ 1048576 ∧ Hid (r = used + (1 + q) + k * sumK d L (q + 6)) ∧ Below w1.heap.size w1 wr) (fun _ i _ => 2 - (intOf i).toNat)
    case atStart => exact ⟨0, used + (1 + q), Nat.zero_le _, rfl, by go_num, by omega, by unfold Hid; omega, Below.refl _ _⟩
    case round =>
      obtain ⟨kc, rc, hkc, rfl, rfl, hrc, HR, hbel0⟩ := hrel
      by_cases hltc : kc < 2
      · have hgc : decide ((kc : Int) < 2) = true := decide_eq_true (by omega)
        go_wp2
        go_loopw [2, 11] (fun u i wr => ∃ k r : Nat, k ≤ n ∧ i = .int .i64 k ∧ u = .int .i64 r ∧ r ≤ 1048576 ∧ Hid (r = rc + sumK d (L.take k) (q + 6)) ∧ Below w1.heap.size w1 wr) (fun _ i _ => n - (intOf i).toNat)
        case atStart => exact ⟨0, rc, Nat.zero_le _, rfl, rfl, hrc, by unfold Hid; rw [sumK_zero]; rfl, hbel0⟩
        case round =>
          obtain ⟨k, r', hk, rfl, rfl, hr', HR', hbel⟩ := hrel
          obtain ⟨hb0, hb1, hb2⟩ := hbox.below hbel hlt
          by_cases hltk : k < n
          · have hbel' : Hid (Below w.heap.size w wr) := hal.out.trans (hbel.mono (by have := hal.out.size; omega))
            have hkL : k < L.length := by rw [← HN.out]; exact hltk
            have HTK : Hid _ := sumK_take L (q + 6) hkL
            obtain ⟨b, o, rfl, hS, x, y, z, hx, hy, hz, hf⟩ := (show Kids S w d L a from H7.out).below hbel'.out k hkL
            have hf' : Hid _ := hf
            generalize L[k] = tk at *
            clear hf hS hkL
            go_wp2_with fail
            refine (ih.out tk _ _ _ (q + 6) r' S _ hf'.out (by omega) hr').mono ?_
            rintro e w2 ⟨hc, hb2'⟩
            have hbel2 : Hid (Below w1.heap.size w1 w2) := hbel.trans (hb2'.mono hbel.size)
            clear hb2' hbel
            rcases hc with rfl | ⟨rfl, hle⟩
            · go_wp2
              go_ret
              exact ⟨.inl rfl, hal.out.trans (hbel2.out.mono (by have := hal.out.size; omega))⟩
            · generalize hR2 : r' + total d tk (q + 6) = r2 at *
              have HR2 : Hid (r' + total d tk (q + 6) = r2) := hR2
              clear hR2
              go_wp2
              go_roundw
              case rel => exact ⟨k + 1, r2, by omega, by go_num, rfl, hle, by have h1 := HR2.out; have h2 := HR'.out; have h3 := HTK.out; unfold Hid; omega, hbel2.out⟩
              case measure => simp [intOf]; omega
          · have e : k = n := by omega
            have eL : L.take k = L := by rw [e, HN.out]; exact List.take_length
            rw [eL] at HR'
            clear eL e
            go_wp2
            go_roundw
            case rel => exact ⟨kc + 1, r', by omega, by go_num, rfl, hr', by have h2 := HR'.out; have h3 := HR.out; unfold Hid; rw [Nat.add_mul]; omega, hbel⟩
            case measure => simp [intOf]; omega
      · have hbel' : Hid (Below w.heap.size w wr) := hal.out.trans (hbel0.mono (by have := hal.out.size; omega))
        have e : kc = 2 := by omega
        have hE : Hid (used + tot = rc) := by have h1 := HR.out; have h2 := HT'.out; rw [e] at h1; unfold Hid; omega
        clear e
        go_wp2
        go_ret
        unfold CostIs
        rw [hE.out]
        exact ⟨.inr ⟨rfl, hrc⟩, hbel'.out⟩
  · have HT' : Hid (tot = 1 + joinL p s + 1 * sumK d L (joinL p s)) := by have h := HT.out; rw [if_neg hv] at h; unfold Hid; omega
    have hq2 : joinL p s ≤ 1048582 := by omega
    clear HT
    have hg1 : decide ((used : Int) < 0) = false := decide_eq_false (by omega)
    have hg2 : decide ((1048576 : Int) < (p : Int)) = false := decide_eq_false (by omega)
    have hg3 : decide ((1048576 : Int) < (s.size : Int)) = false := decide_eq_false (by omega)
    have hg5 : (v == 4) = false := beq_false_of_ne hv
    go_enter Try.func20, Try.ntmps20
    go_wp2_with fail
    refine (joinLen_any _ _ _ (by omega) (by omega)).mono ?_
    rintro e w2 ⟨rfl, rfl⟩
    generalize joinL p s = q at *
    have hg4 : decide ((1048576 : Int) < (used : Int) + (1 + (q : Int))) = false := decide_eq_false (by omega)
    go_wp2
    have hbox := Box.new w (.string s) (.int .i64 v) (.slice a n c) 24
    have hal : Hid (Below w.heap.size w (w.alloc (.cells #[.string s, .int .i64 v, .slice a n c] 24))) := (Below.refl _ _).alloc (Nat.le_refl _) _
    have hlt : w.heap.size < (w.alloc (.cells #[.string s, .int .i64 v, .slice a n c] 24)).heap.size := by simp
    generalize w.alloc (.cells #[.string s, .int .i64 v, .slice a n c] 24) = w1 at *
    go_loopw [2, 10] (fun u cc wr => ∃ k r : Nat, k ≤ 1 ∧ cc = .int .i64 k ∧ u = .int .i64 r ∧ r ≤ 1048576 ∧ Hid (r = used + (1 + q) + k * sumK d L (q)) ∧ Below w1.heap.size w1 wr) (fun _ i _ => 1 - (intOf i).toNat)
    case atStart => exact ⟨0, used + (1 + q), Nat.zero_le _, rfl, by go_num, by omega, by unfold Hid; omega, Below.refl _ _⟩
    case round =>
      obtain ⟨kc, rc, hkc, rfl, rfl, hrc, HR, hbel0⟩ := hrel
      by_cases hltc : kc < 1
      · have hgc : decide ((kc : Int) < 1) = true := decide_eq_true (by omega)
        go_wp2
        go_loopw [2, 11] (fun u i wr => ∃ k r : Nat, k ≤ n ∧ i = .int .i64 k ∧ u = .int .i64 r ∧ r ≤ 1048576 ∧ Hid (r = rc + sumK d (L.take k) (q)) ∧ Below w1.heap.size w1 wr) (fun _ i _ => n - (intOf i).toNat)
        case atStart => exact ⟨0, rc, Nat.zero_le _, rfl, rfl, hrc, by unfold Hid; rw [sumK_zero]; rfl, hbel0⟩
        case round =>
          obtain ⟨k, r', hk, rfl, rfl, hr', HR', hbel⟩ := hrel
          obtain ⟨hb0, hb1, hb2⟩ := hbox.below hbel hlt
          by_cases hltk : k < n
          · have hbel' : Hid (Below w.heap.size w wr) := hal.out.trans (hbel.mono (by have := hal.out.size; omega))
            have hkL : k < L.length := by rw [← HN.out]; exact hltk
            have HTK : Hid _ := sumK_take L (q) hkL
            obtain ⟨b, o, rfl, hS, x, y, z, hx, hy, hz, hf⟩ := (show Kids S w d L a from H7.out).below hbel'.out k hkL
            have hf' : Hid _ := hf
            generalize L[k] = tk at *
            clear hf hS hkL
            go_wp2_with fail
            refine (ih.out tk _ _ _ (q) r' S _ hf'.out (by omega) hr').mono ?_
            rintro e w2 ⟨hc, hb2'⟩
            have hbel2 : Hid (Below w1.heap.size w1 w2) := hbel.trans (hb2'.mono hbel.size)
            clear hb2' hbel
            rcases hc with rfl | ⟨rfl, hle⟩
            · go_wp2
              go_ret
              exact ⟨.inl rfl, hal.out.trans (hbel2.out.mono (by have := hal.out.size; omega))⟩
            · generalize hR2 : r' + total d tk (q) = r2 at *
              have HR2 : Hid (r' + total d tk (q) = r2) := hR2
              clear hR2
              go_wp2
              go_roundw
              case rel => exact ⟨k + 1, r2, by omega, by go_num, rfl, hle, by have h1 := HR2.out; have h2 := HR'.out; have h3 := HTK.out; unfold Hid; omega, hbel2.out⟩
              case measure => simp [intOf]; omega
          · have e : k = n := by omega
            have eL : L.take k = L := by rw [e, HN.out]; exact List.take_length
            rw [eL] at HR'
            clear eL e
            go_wp2
            go_roundw
            case rel => exact ⟨kc + 1, r', by omega, by go_num, rfl, hr', by have h2 := HR'.out; have h3 := HR.out; unfold Hid; rw [Nat.add_mul]; omega, hbel⟩
            case measure => simp [intOf]; omega
      · have hbel' : Hid (Below w.heap.size w wr) := hal.out.trans (hbel0.mono (by have := hal.out.size; omega))
        have e : kc = 1 := by omega
        have hE : Hid (used + tot = rc) := by have h1 := HR.out; have h2 := HT'.out; rw [e] at h1; unfold Hid; omega
        clear e
        go_wp2
        go_ret
        unfold CostIs
        rw [hE.out]
        exact ⟨.inr ⟨rfl, hrc⟩, hbel'.out⟩

theorem cost_any : ∀ d, CostAt d
  | 0 => fun t => Empty.elim t
  | d + 1 => cost_step d (cost_any d)
end Go.Proofs.Qxb6601217a.Tr
