/- faultsCloneNode: the tree copied. -/
import Derived.Test.Qxb6601217aField
import Derived.Deep.RegionHeld3
namespace Go.Proofs.Qxb6601217a.Tr
open Go.RowKit

theorem Fits.same {S : Nat → Prop} {w w' : World} {d : Nat} {t : T d} {x y z : Value} (h : Fits S w d t x y z) (e : w'.heap = w.heap) : Fits S w' d t x y z :=
  h.move fun b hs _ => ⟨hs, by rw [e]⟩

theorem hid {p : Prop} (h : p) : Hid p := h
/-- Three cells that are there, and not frozen. -/
def Spot (w : World) (g k : Nat) : Prop := ∃ x y z, w.cell? ⟨g, k, none⟩ = some x ∧ w.cell? ⟨g, k + 1, none⟩ = some y ∧ w.cell? ⟨g, k + 2, none⟩ = some z ∧ w.frozen? ⟨g, k, none⟩ = false ∧ w.frozen? ⟨g, k + 1, none⟩ = false ∧ w.frozen? ⟨g, k + 2, none⟩ = false
def CloneAt (d : Nat) : Prop := ∀ (t : T d) (x y z : Value) (S : Nat → Prop) (w : World), Fits S w d t x y z → total d t 0 ≤ 1048576 →
    Calls Try.prog 9 #[.agg #[x, y, z]] w fun e w' => NewTree w.heap.size w' d t e ∧ Below w.heap.size w w'

set_option maxHeartbeats 1000000 in
theorem clone_nil (d : Nat) (s : ByteArray) (v : Int) (L : List (T d)) (w : World) (hs : s.size ≤ maxLen) (hL : Hid (0 = L.length)) :
    Calls Try.prog 9 #[.agg #[.string s, .int .i64 v, .slice none 0 0]] w fun e w' => NewTree w.heap.size w' (d + 1) (mk s v L) e ∧ Below w.heap.size w w' := by
  have hnil : ∀ W, (binOp .neq 22 (.slice none 0 0) (.slice none 0 0)).run Try.prog W = .ok (.bool false) W :=
    fun W => run_neq_slice_nil_any W _ _ _ _ _ _ _ Try.underlying22
  have HS : Hid (s.size ≤ maxLen) := hs
  clear hs
  go_enter Try.func9, Try.ntmps9
  go_wp2
  refine bodyPost_ret (v := .agg #[.string s, .int .i64 v, .slice none 0 0]) (by simp [results, Try.results9, go_sem]) rfl ⟨⟨_, _, _, rfl, Fits.shut' HS.out hL.out (fun _ => ⟨rfl, rfl⟩) (Nat.zero_le _) (kids_nil hL.out)⟩, ?_⟩
  exact (((Below.refl _ w).alloc (Nat.le_refl _) _).alloc (by rw [sz_alloc]; omega) _).alloc (by rw [sz_alloc, sz_alloc]; omega) _


/-- The three variables that faultsCloneNode makes, and the row. -/
theorem start4 (w : World) (x y z p q : Value) (n : Nat) : ∀ w1, w1 = (((w.alloc (.cells #[x, y, z] 24)).alloc (.cells #[.string ⟨#[]⟩, .int .i64 0, .slice none 0 0] 24)).alloc (.cells #[p, q, .slice (some ⟨w.heap.size + 1 + 1 + 1, 0, none⟩) n n] 24)).alloc (.cells (madeCells #[.string ByteArray.empty, .int .i64 0, .slice none 0 0] (n * 3)) 24) →
    Box w1 w.heap.size x y z ∧ Var3 w1 (w.heap.size + 1) ∧ Box w1 (w.heap.size + 1 + 1) p q (.slice (some ⟨w.heap.size + 1 + 1 + 1, 0, none⟩) n n) ∧ (∃ f, w1.rowIs (w.heap.size + 1 + 1 + 1) 24 (n * 3) f) ∧ Below w.heap.size w w1 ∧ w1.heap.size = w.heap.size + 4 := by
  rintro w1 rfl
  refine ⟨?_, ?_, ?_, ?_, ?_, by simp⟩
  · exact (Box.new w x y z 24).below ((((Below.refl _ _).alloc (Nat.le_refl _) _).alloc (by simp only [sz_alloc]; omega) _).alloc (by simp only [sz_alloc]; omega) _) (by simp only [sz_alloc]; omega)
  · have h := (Var3.new (w.alloc (.cells #[x, y, z] 24)) (.string ⟨#[]⟩) (.int .i64 0) (.slice none 0 0) 24).of ((((Below.refl _ _).alloc (Nat.le_refl _) (.cells #[p, q, .slice (some ⟨w.heap.size + 1 + 1 + 1, 0, none⟩) n n] 24)).alloc (by simp) (.cells (madeCells #[.string ByteArray.empty, .int .i64 0, .slice none 0 0] (n * 3)) 24)).block _ (by simp))
    rwa [sz_alloc] at h
  · have h := (Box.new ((w.alloc (.cells #[x, y, z] 24)).alloc (.cells #[.string ⟨#[]⟩, .int .i64 0, .slice none 0 0] 24)) p q (.slice (some ⟨w.heap.size + 1 + 1 + 1, 0, none⟩) n n) 24).below ((Below.refl _ _).alloc (Nat.le_refl _) (.cells (madeCells #[.string ByteArray.empty, .int .i64 0, .slice none 0 0] (n * 3)) 24)) (by simp)
    rwa [sz_alloc, sz_alloc] at h
  · have h := made3_row (((w.alloc (.cells #[x, y, z] 24)).alloc (.cells #[.string ⟨#[]⟩, .int .i64 0, .slice none 0 0] 24)).alloc (.cells #[p, q, .slice (some ⟨w.heap.size + 1 + 1 + 1, 0, none⟩) n n] 24)) n 24
    rwa [sz_alloc, sz_alloc, sz_alloc] at h
  · exact (((((Below.refl _ w).alloc (Nat.le_refl _) _).alloc (by simp) _).alloc (by simp; omega) _).alloc (by simp; omega) _)

def CloneInv (w1 : World) (g n d : Nat) (L : List (T d)) (k : Nat) (w2 : World) : Prop := (∃ f, w2.rowIs g 24 (n * 3) f ∧ Laid w2 g d L k f) ∧ Below g w1 w2
def CloneStep (P R : World → Prop) (g k : Nat) (e : Ending) (w2 : World) : Prop :=
  ∃ s2 v2 a2 n2 c2, e = .returned (.agg #[.string s2, .int .i64 v2, .slice a2 n2 c2]) ∧ P w2 ∧ P (put3 w2 g k (.string s2) (.int .i64 v2) (.slice a2 n2 c2)) ∧ Spot w2 g k ∧ R (put3 w2 g k (.string s2) (.int .i64 v2) (.slice a2 n2 c2))
theorem clone_call (d : Nat) (ih : CloneAt d) (x y z : Value) (S : Nat → Prop) (P : World → Prop) (w1 wr : World) (g n k : Nat) (L : List (T d)) (f : Nat → Value) (hkL : k < L.length) (hkn : k < n) (hf : Fits S wr d L[k] x y z)
    (hbt : total d L[k] 0 ≤ 1048576) (hrow : wr.rowIs g 24 (n * 3) f) (hlaid : Laid wr g d L k f) (hbel : Below g w1 wr) (hP : ∀ w2 : World, (∀ b, b < g → w2.heap[b]? = wr.heap[b]?) → P w2) :
    Calls Try.prog 9 #[.agg #[x, y, z]] wr.drew fun e w2 => CloneStep P (CloneInv w1 g n d L (k + 1)) g (k * 3) e w2 := by
  have hg := hrow.lt
  refine (ih L[k] x y z S wr.drew (hf.same rfl) hbt).mono ?_
  rintro e w2 ⟨⟨x2, y2, z2, rfl, hF⟩, hb⟩
  obtain ⟨s2, v2, a2, n2, c2, rfl, rfl, rfl⟩ := hF.form
  have hblk : ∀ b, b < wr.heap.size → w2.heap[b]? = wr.heap[b]? := fun b hlt => hb.block b hlt
  have hrow2 := hrow.of_block (hblk _ hg)
  have hlaid2 := hlaid.move (w' := w2) fun b _ hb => hblk b hb
  have hF' := hF.move (S' := fun b => g < b) (w' := w2) fun b hb _ => ⟨Nat.lt_of_lt_of_le hg hb, rfl⟩
  refine ⟨s2, v2, a2, n2, c2, rfl, hP _ fun b hb => hblk b (by omega), hP _ fun b hb => (put3_block (by omega)).trans (hblk b (by omega)), ?_, ?_, ?_⟩
  · exact ⟨_, _, _, hrow2.cell (by omega), hrow2.cell (by omega), hrow2.cell (by omega), hrow2.frozen _, hrow2.frozen _, hrow2.frozen _⟩
  · exact ⟨_, put3_row hrow2, (hlaid2.step hkL hF').move fun b hb _ => put3_block (by omega)⟩
  · refine put3_below (hbel.trans ⟨?_, ?_, ?_, ?_, fun b hb => hblk b (by omega)⟩) (Nat.le_refl _)
    · exact hb.os
    · exact hb.tape
    · exact hb.output
    · exact hb.size

set_option maxHeartbeats 400000 in
theorem clone_some (d : Nat) (ih : Hid (CloneAt d)) (s : ByteArray) (v : Int) (L : List (T d)) (ad : Addr) (n c : Nat) (S : Nat → Prop) (w : World) (hs : s.size ≤ maxLen) (hL : Hid (n = L.length)) (hn : n ≤ 1048576)
    (HP : Hid (∀ k ∈ L, total d k 0 ≤ 1048576)) (HK : Hid (Kids S w d L (some ad))) :
    Calls Try.prog 9 #[.agg #[.string s, .int .i64 v, .slice (some ad) n c]] w fun e w' => NewTree w.heap.size w' (d + 1) (mk s v L) e ∧ Below w.heap.size w w' := by
  have hnil : ∀ W, (binOp .neq 22 (.slice (some ad) n c) (.slice none 0 0)).run Try.prog W = .ok (.bool true) W :=
    fun W => run_neq_slice_nil_any W _ _ _ _ _ _ _ Try.underlying22
  have hmk := make3 22 24 Try.underlying22 info24 n hn
  have HS : Hid (s.size ≤ maxLen) := hs
  clear hs
  go_enter Try.func9, Try.ntmps9
  go_wp2
  obtain ⟨hbox, hvar, hout, hrow0, hal0, hsz0⟩ := start4 w (.string s) (.int .i64 v) (.slice (some ad) n c) (.string s) (.int .i64 v) n _ rfl
  generalize (((w.alloc (.cells #[.string s, .int .i64 v, .slice (some ad) n c] 24)).alloc (.cells #[.string ⟨#[]⟩, .int .i64 0, .slice none 0 0] 24)).alloc (.cells #[.string s, .int .i64 v, .slice (some ⟨w.heap.size + 1 + 1 + 1, 0, none⟩) n n] 24)).alloc (.cells (madeCells #[.string ByteArray.empty, .int .i64 0, .slice none 0 0] (n * 3)) 24) = w1 at *
  have hal : Hid _ := hal0
  have hsz : Hid _ := hsz0
  clear hmk hnil hal0 hsz0
  go_loopw [4] (fun i wr => ∃ k : Nat, k ≤ n ∧ i = .int .i64 k ∧ Hid (∃ f, wr.rowIs (w.heap.size + 1 + 1 + 1) 24 (n * 3) f ∧ Laid wr (w.heap.size + 1 + 1 + 1) d L k f) ∧ Below (w.heap.size + 1 + 1 + 1) w1 wr) (fun i _ => n - (intOf i).toNat)
  case atStart => exact ⟨0, Nat.zero_le _, rfl, (by obtain ⟨f, hf⟩ := hrow0; exact ⟨f, hf, fun i hi => by omega⟩), Below.refl _ _⟩
  case round =>
    obtain ⟨k, hk, rfl, HR, hbel⟩ := hrel
    obtain ⟨hb0, hb1, hb2⟩ := hbox.below hbel (by omega)
    obtain ⟨ho0, ho1, ho2⟩ := hout.below hbel (by omega)
    have hbw : Hid (Below w.heap.size w wr) := hal.out.trans (hbel.mono (by omega))
    by_cases hlt : k < n
    · have hkL : k < L.length := by rw [← hL.out]; exact hlt
      obtain ⟨f, hrow, hlaid⟩ := HR.out
      obtain ⟨b, o, e, hS, x, y, z, hx, hy, hz, hf⟩ := (show Kids S w d L _ from HK.out).below hbw.out k hkL
      obtain rfl := Option.some.inj e
      have hbW : b < w.heap.size := by
        obtain ⟨b', o', e', _, x', y', z', hx', _⟩ := (show Kids S w d L _ from HK.out) k hkL
        simp only [Option.some.injEq, Addr.mk.injEq] at e'
        rw [e'.1]
        exact World.block_lt_of_cell? w _ hx'
      have HC := hid (clone_call d ih.out x y z S (fun w' => w'.cell? ⟨w.heap.size + 1 + 1, 2, none⟩ = some (.slice (some ⟨w.heap.size + 1 + 1 + 1, 0, none⟩) n n) ∧ w'.cell? ⟨w.heap.size, 2, none⟩ = some (.slice (some ⟨b, o, none⟩) n c) ∧ w'.cell? ⟨b, o + k * 3, none⟩ = some x ∧ w'.cell? ⟨b, o + k * 3 + 1, none⟩ = some y ∧ w'.cell? ⟨b, o + k * 3 + 2, none⟩ = some z) w1 wr (w.heap.size + 1 + 1 + 1) n k L f hkL hlt hf (HP.out _ (List.getElem_mem hkL)) hrow hlaid hbel (fun w2 h => by
        refine ⟨?_, ?_, ?_, ?_, ?_⟩
        · rw [← ho2]; simp only [World.cell?, h _ (show w.heap.size + 1 + 1 < w.heap.size + 1 + 1 + 1 by omega)]
        · rw [← hb2]; simp only [World.cell?, h _ (show w.heap.size < w.heap.size + 1 + 1 + 1 by omega)]
        · rw [← hx]; simp only [World.cell?, h b (by omega)]
        · rw [← hy]; simp only [World.cell?, h b (by omega)]
        · rw [← hz]; simp only [World.cell?, h b (by omega)]))
      clear hf hS hkL hlaid hrow HR hbel
      go_wp2_with fail
      go_region_held3 (fun w' => w'.cell? ⟨w.heap.size + 1 + 1, 2, none⟩ = some (.slice (some ⟨w.heap.size + 1 + 1 + 1, 0, none⟩) n n) ∧ w'.cell? ⟨w.heap.size, 2, none⟩ = some (.slice (some ⟨b, o, none⟩) n c) ∧ w'.cell? ⟨b, o + k * 3, none⟩ = some x ∧ w'.cell? ⟨b, o + k * 3 + 1, none⟩ = some y ∧ w'.cell? ⟨b, o + k * 3 + 2, none⟩ = some z)
        (first
          | exact hS3
          | exact hS2
          | exact ⟨ho2, hb2, hx, hy, hz⟩)
        ((go_at_call 9; refine HC.out.mono ?_; rintro e w2 ⟨s2, v2, a2, n2, c2, rfl, hS2, hS3, ⟨_, _, _, hc0, hc1, hc2, hf0, hf1, hf2⟩, hN⟩))
      have HN := hid hN
      clear hN hS2 hS3 HC
      go_wp2
      go_roundw
      case rel => exact ⟨k + 1, by omega, by go_num, HN.out.1, HN.out.2⟩
      case measure => simp [intOf]; omega
    · have e : k = n := by omega
      obtain ⟨f, hrow, hlaid⟩ := HR.out
      obtain ⟨f2, t2, hv⟩ := hvar.of (hbel.block _ (by omega))
      have hK : Kids (fun b => w.heap.size + 1 < b) wr d L (some ⟨w.heap.size + 1 + 1 + 1, 0, none⟩) := (kids_row hrow hL.out (Nat.le_refl _) (e ▸ hlaid)).move fun b hb _ => ⟨by omega, rfl⟩
      have hc0 := hv.cell (i := 0) (by omega)
      have hc1 := hv.cell (i := 1) (by omega)
      have hc2 := hv.cell (i := 2) (by omega)
      have hf0 := hv.frozen 0
      have hf1 := hv.frozen 1
      have hf2 := hv.frozen 2
      have hE : Hid _ := ends (c := n) (v := v) (x := .string s) (y := .int .i64 v) (z := .slice (some ⟨w.heap.size + 1 + 1 + 1, 0, none⟩) n n) HS.out hL.out (fun h => by cases h) (by unfold maxLen; omega) hK (Nat.le_succ _) hbw.out
      have hB : Hid _ := put3_box (x := .string s) (y := .int .i64 v) (z := .slice (some ⟨w.heap.size + 1 + 1 + 1, 0, none⟩) n n) hv
      clear e hrow hlaid HR hv hbel hK
      go_wp2
      change bodyPost _ _ _ _ _ (put3 wr (w.heap.size + 1) 0 (.string s) (.int .i64 v) (.slice (some ⟨w.heap.size + 1 + 1 + 1, 0, none⟩) n n))
      obtain ⟨q0, q1, q2⟩ := hB.out
      clear hB
      generalize put3 wr (w.heap.size + 1) 0 (.string s) (.int .i64 v) (.slice (some ⟨w.heap.size + 1 + 1 + 1, 0, none⟩) n n) = w3 at *
      exact bodyPost_ret (v := .agg #[.string s, .int .i64 v, .slice (some ⟨w.heap.size + 1 + 1 + 1, 0, none⟩) n n]) (by simp [results, Try.results9, go_sem, q0, q1, q2]) rfl hE.out
theorem clone_step (d : Nat) (ih : Hid (CloneAt d)) : CloneAt (d + 1) := by
  intro t x y z S w h htot
  obtain ⟨s, v, L, n, a, c, rfl, hn, rfl, rfl, rfl, hs, ha, hm, hk⟩ := h.open'
  have hlen := Nat.le_trans (len_le (mk s v L) 0) htot
  rw [ks_mk] at hlen
  cases a with
  | none =>
    obtain ⟨rfl, rfl⟩ := ha rfl
    exact clone_nil d s v L w hs hn
  | some ad => exact clone_some d ih s v L ad n c S w hs hn (by omega) (fun k hk => Nat.le_trans (kid_le (t := mk s v L) hk) htot) hk
theorem clone_any : ∀ d, CloneAt d
  | 0 => fun t => Empty.elim t
  | d + 1 => clone_step d (clone_any d)
end Go.Proofs.Qxb6601217a.Tr
