/- ZZMakeField, faultsToField: a tree of fields, laid out anew. -/
import Derived.Test.Qxb6601217aCost
import Derived.Deep.OwnRows
namespace Go.Proofs.Qxb6601217a.Tr
open Go.RowKit

theorem kid_le {d : Nat} {t : T (d + 1)} {k : T d} (hk : k ∈ ks t) : total d k 0 ≤ total (d + 1) t 0 := by
  rw [total_eq]
  have h1 := mem_le_sum (ks t) (fun k => total d k (joinL 0 (nm t) + 6)) hk
  have h2 := mem_le_sum (ks t) (fun k => total d k (joinL 0 (nm t))) hk
  have h3 := total_mono d k (Nat.zero_le (joinL 0 (nm t) + 6))
  have h4 := total_mono d k (Nat.zero_le (joinL 0 (nm t)))
  unfold sumK
  split <;> omega
theorem len_le_sum {α : Type} (L : List α) (f : α → Nat) (h : ∀ x ∈ L, 0 < f x) : L.length ≤ (L.map f).sum := by
  induction L with
  | nil => exact Nat.le_refl _
  | cons y L ih =>
    have h1 := h y (by simp)
    have h2 := ih fun z hz => h z (by simp [hz])
    simp only [List.length_cons, List.map_cons, List.sum_cons]
    omega
theorem len_le {d : Nat} (t : T (d + 1)) (p : Nat) : (ks t).length ≤ total (d + 1) t p := by
  rw [total_eq]
  have h1 := len_le_sum (ks t) (fun k => total d k (joinL p (nm t) + 6)) fun k _ => Nat.lt_of_le_of_lt (Nat.zero_le _) (total_pos d k _)
  have h2 := len_le_sum (ks t) (fun k => total d k (joinL p (nm t))) fun k _ => Nat.lt_of_le_of_lt (Nat.zero_le _) (total_pos d k _)
  unfold sumK
  split <;> omega

/-- The row at block g holds the first k trees of L, each laid out behind g. -/
def Laid (w : World) (g : Nat) (d : Nat) (L : List (T d)) (k : Nat) (f : Nat → Value) : Prop :=
  ∀ i, i < k → (hi : i < L.length) → Fits (fun b => g < b) w d L[i] (f (i * 3)) (f (i * 3 + 1)) (f (i * 3 + 2))
def upd3 (f : Nat → Value) (k : Nat) (x y z : Value) : Nat → Value := fun j => if j = k + 2 then z else if j = k + 1 then y else if j = k then x else f j
theorem upd3_0 (f : Nat → Value) (k : Nat) (x y z : Value) : upd3 f k x y z k = x := by simp [upd3]
theorem upd3_1 (f : Nat → Value) (k : Nat) (x y z : Value) : upd3 f k x y z (k + 1) = y := by simp [upd3]
theorem upd3_2 (f : Nat → Value) (k : Nat) (x y z : Value) : upd3 f k x y z (k + 2) = z := by simp [upd3]
theorem upd3_far (f : Nat → Value) (k : Nat) (x y z : Value) {j : Nat} (h : j < k) : upd3 f k x y z j = f j := by
  unfold upd3
  rw [if_neg (by omega), if_neg (by omega), if_neg (by omega)]
theorem Laid.move {w w' : World} {g d : Nat} {L : List (T d)} {k : Nat} {f : Nat → Value} (h : Laid w g d L k f) (hw : ∀ b, g < b → b < w.heap.size → w'.heap[b]? = w.heap[b]?) : Laid w' g d L k f :=
  fun i hi hl => (h i hi hl).move fun b hb hs => ⟨hb, hw b hb hs⟩
theorem Laid.step {w : World} {g d : Nat} {L : List (T d)} {k : Nat} {f : Nat → Value} {x y z : Value} (h : Laid w g d L k f) (hl : k < L.length) (hf : Fits (fun b => g < b) w d L[k] x y z) : Laid w g d L (k + 1) (upd3 f (k * 3) x y z) := by
  intro i hi hil
  by_cases e : i = k
  · subst e
    rw [upd3_0, upd3_1, upd3_2]
    exact hf
  · rw [upd3_far _ _ _ _ _ (by omega), upd3_far _ _ _ _ _ (by omega), upd3_far _ _ _ _ _ (by omega)]
    exact h i (by omega) hil

/-- The three stores of one element. -/
def put3 (w : World) (g k : Nat) (x y z : Value) : World := ((w.setCell ⟨g, k, none⟩ x).setCell ⟨g, k + 1, none⟩ y).setCell ⟨g, k + 2, none⟩ z
theorem put3_row {w : World} {g t n k : Nat} {f : Nat → Value} {x y z : Value} (h : w.rowIs g t n f) : (put3 w g k x y z).rowIs g t n (upd3 f k x y z) :=
  ((h.set k x).set (k + 1) y).set (k + 2) z
theorem put3_block {w : World} {g k b : Nat} {x y z : Value} (h : b ≠ g) : (put3 w g k x y z).heap[b]? = w.heap[b]? := by
  unfold put3
  rw [Below.heap_setCell _ _ _ _ h, Below.heap_setCell _ _ _ _ h, Below.heap_setCell _ _ _ _ h]
theorem put3_below {B g k : Nat} {w wr : World} {x y z : Value} (h : Below B w wr) (hg : B ≤ g) : Below B w (put3 wr g k x y z) :=
  ((h.setCell (p := ⟨g, k, none⟩) hg x).setCell (p := ⟨g, k + 1, none⟩) hg y).setCell (p := ⟨g, k + 2, none⟩) hg z
theorem put3_size {w : World} {g k : Nat} {x y z : Value} : (put3 w g k x y z).heap.size = w.heap.size := by
  unfold put3
  simp

theorem makeField_any (s : ByteArray) (v : Int) (z : Value) (w : World) (hz : ∃ a n c, z = .slice a n c) :
    Calls Try.prog 22 #[.string s, .int .i64 v, z] w fun e w' => e = .returned (.agg #[.string s, .int .i64 v, z]) ∧ Below w.heap.size w w' := by
  obtain ⟨a, n, c, rfl⟩ := hz
  go_enter Try.func22, Try.ntmps22
  go_wp2
  exact bodyPost_ret (v := .agg #[.string s, .int .i64 v, .slice a n c]) (by simp [results, Try.results22, go_sem]) rfl ⟨rfl, (Below.refl _ _).alloc (Nat.le_refl _) _⟩

theorem info38 : (Try.prog.info? 38).map (fun i => (i.zero, i.size, i.bytes)) = some (some (.agg #[.string ByteArray.empty, .int .i64 0, .slice none 0 0]), 3, 48) := by kernel_rfl
theorem info24 : (Try.prog.info? 24).map (fun i => (i.zero, i.size, i.bytes)) = some (some (.agg #[.string ByteArray.empty, .int .i64 0, .slice none 0 0]), 3, 48) := by kernel_rfl

/-- 'make([]T, n)' with elements of three cells: a row of 3 n cells. -/
theorem make3 (t e : TypeId) (ht : Try.prog.underlying t = some (.slice e)) (hinfo : (Try.prog.info? e).map (fun i => (i.zero, i.size, i.bytes)) = some (some (.agg #[.string ByteArray.empty, .int .i64 0, .slice none 0 0]), 3, 48)) (n : Nat) (hn : n ≤ 1048576) (w : World) :
    (Instr.makeSlice t (.int .i64 (n : Int)) (.int .i64 (n : Int))).run Try.prog w = .ok (.slice (some ⟨w.heap.size, 0, none⟩) n n) (w.alloc (.cells (madeCells #[.string ByteArray.empty, .int .i64 0, .slice none 0 0] (n * 3)) e)) := by
  obtain ⟨i, hi, hzz⟩ := Option.map_eq_some_iff.1 hinfo
  simp only [Prod.mk.injEq] at hzz
  obtain ⟨hz, hs, hb⟩ := hzz
  have hr := run_make (P := Try.prog) w t e i _ ht hi hz .i64 .i64 n n (by omega) (Int.le_refl _) (by rw [hb]; omega) (by omega)
  simp only [Int.toNat_natCast, hs, Value.cells] at hr
  exact hr
theorem made3_row (w : World) (n : Nat) (t : TypeId) : ∃ f, (w.alloc (.cells (madeCells #[.string ByteArray.empty, .int .i64 0, .slice none 0 0] (n * 3)) t)).rowIs w.heap.size t (n * 3) f := by
  refine ⟨fun i => (madeCells #[.string ByteArray.empty, .int .i64 0, .slice none 0 0] (n * 3))[i]!, ?_⟩
  have h := World.rowIs_alloc w (madeCells #[.string ByteArray.empty, .int .i64 0, .slice none 0 0] (n * 3)) t (fun i => (madeCells #[.string ByteArray.empty, .int .i64 0, .slice none 0 0] (n * 3))[i]!) (fun i hi => by simp [hi])
  rwa [size_madeCells] at h

theorem Fits.form {S : Nat → Prop} {w : World} : ∀ {d : Nat} {t : T d} {x y z : Value}, Fits S w d t x y z → ∃ s v a n c, x = .string s ∧ y = .int .i64 v ∧ z = .slice a n c
  | 0, t, _, _, _, _ => Empty.elim t
  | _ + 1, _, _, _, _, ⟨h1, _, h3, a, c, h4, _⟩ => ⟨_, _, a, _, c, h1, h3, h4⟩

/-- The tree, laid out behind B. -/
def NewTree (B : Nat) (w' : World) (d : Nat) (t : T d) (e : Ending) : Prop := ∃ x y z, e = .returned (.agg #[x, y, z]) ∧ Fits (fun b => B ≤ b) w' d t x y z
def FieldAt (d : Nat) : Prop := ∀ (t : T d) (x y z : Value) (S : Nat → Prop) (w : World), Fits S w d t x y z → total d t 0 ≤ 1048576 →
    Calls Try.prog 12 #[.agg #[x, y, z]] w fun e w' => NewTree w.heap.size w' d t e ∧ Below w.heap.size w w'
theorem Fits.open' {S : Nat → Prop} {w : World} {d : Nat} {t : T (d + 1)} {x y z : Value} (h : Fits S w (d + 1) t x y z) :
    ∃ s v L n a c, t = mk s v L ∧ n = L.length ∧ x = .string s ∧ y = .int .i64 v ∧ z = .slice a n c ∧ s.size ≤ maxLen ∧ (a = none → n = 0 ∧ c = 0) ∧ n ≤ maxLen ∧ Kids S w d L a := by
  obtain ⟨h1, h2, h3, a, c, h4, h5, h6, h7⟩ := h
  exact ⟨nm t, vl t, ks t, _, a, c, rfl, rfl, h1, h3, h4, h2, h5, h6, h7⟩
theorem Fits.shut' {S : Nat → Prop} {w : World} {d : Nat} {s : ByteArray} {v : Int} {L : List (T d)} {n : Nat} {a : Option Addr} {c : Nat} (h2 : s.size ≤ maxLen) (hn : n = L.length) (h5 : a = none → n = 0 ∧ c = 0) (h6 : n ≤ maxLen) (h7 : Kids S w d L a) :
    Fits S w (d + 1) (mk s v L) (.string s) (.int .i64 v) (.slice a n c) := by
  subst hn
  exact Fits.shut (t := mk s v L) h2 h5 h6 h7
theorem kids_nil {S : Nat → Prop} {w : World} {d : Nat} {L : List (T d)} {a : Option Addr} (h : 0 = L.length) : Kids S w d L a := fun i hi => by omega
theorem kids_row {w : World} {g t n d : Nat} {L : List (T d)} {f : Nat → Value} {B : Nat} (hr : w.rowIs g t (n * 3) f) (hn : n = L.length) (hB : B ≤ g) (hl : Laid w g d L n f) : Kids (fun b => B ≤ b) w d L (some ⟨g, 0, none⟩) := by
  intro i hi
  refine ⟨g, 0, rfl, hB, _, _, _, ?_, ?_, ?_, (hl i (by omega) hi).move fun b hb _ => ⟨by omega, rfl⟩⟩
  · rw [Nat.zero_add]; exact hr.cell (by omega)
  · rw [Nat.zero_add]; exact hr.cell (by omega)
  · rw [Nat.zero_add]; exact hr.cell (by omega)
/-- A variable of three cells, to be written. -/
def Var3 (w : World) (b : Nat) : Prop := ∃ f t, w.rowIs b t 3 f
theorem Var3.new (w : World) (x y z : Value) (t : TypeId) : Var3 (w.alloc (.cells #[x, y, z] t)) w.heap.size := by
  refine ⟨fun i => if i = 0 then x else if i = 1 then y else z, t, ?_⟩
  refine World.rowIs_alloc w #[x, y, z] t _ (fun i hi => ?_)
  have hi' : i < 3 := hi
  rcases (show i = 0 ∨ i = 1 ∨ i = 2 by omega) with rfl | rfl | rfl <;> rfl
theorem Var3.of {w w' : World} {b : Nat} (h : Var3 w b) (e : w'.heap[b]? = w.heap[b]?) : Var3 w' b := by
  obtain ⟨f, t, h⟩ := h
  exact ⟨f, t, h.of_block e⟩

/-- How faultsToField and faultsCloneNode end: the result's variable at b, the rows of the fields behind it. -/
theorem ends {d : Nat} {s : ByteArray} {v : Int} {L : List (T d)} {n : Nat} {a : Option Addr} {c : Nat} {w w2 : World} {b : Nat} {x y z : Value} (hs : s.size ≤ maxLen) (hn : n = L.length) (ha : a = none → n = 0 ∧ c = 0) (hm : n ≤ maxLen)
    (hk : Kids (fun k => b < k) w2 d L a) (hB : w.heap.size ≤ b) (hb : Below w.heap.size w w2) :
    NewTree w.heap.size (put3 w2 b 0 x y z) (d + 1) (mk s v L) (.returned (.agg #[.string s, .int .i64 v, .slice a n c])) ∧ Below w.heap.size w (put3 w2 b 0 x y z) :=
  ⟨⟨_, _, _, rfl, Fits.shut' hs hn ha hm (hk.move fun k hk _ => ⟨by omega, put3_block (by omega)⟩)⟩, put3_below hb hB⟩

theorem put3_box {w : World} {g t : Nat} {f : Nat → Value} {x y z : Value} (h : w.rowIs g t 3 f) : Box (put3 w g 0 x y z) g x y z := by
  have hr := put3_row (k := 0) (x := x) (y := y) (z := z) h
  exact ⟨hr.cell (i := 0) (by omega), hr.cell (i := 1) (by omega), hr.cell (i := 2) (by omega)⟩
theorem sz_alloc (w : World) (o : Obj) : (w.alloc o).heap.size = w.heap.size + 1 := by simp
theorem start3 (w : World) (x y z : Value) (t : TypeId) (n : Nat) : ∀ w1, w1 = ((w.alloc (.cells #[x, y, z] 24)).alloc (.cells #[.string ⟨#[]⟩, .int .i64 0, .slice none 0 0] t)).alloc (.cells (madeCells #[.string ByteArray.empty, .int .i64 0, .slice none 0 0] (n * 3)) t) →
    Box w1 w.heap.size x y z ∧ Var3 w1 (w.heap.size + 1) ∧ (∃ f, w1.rowIs (w.heap.size + 1 + 1) t (n * 3) f) ∧ Below w.heap.size w w1 ∧ w1.heap.size = w.heap.size + 3 := by
  rintro w1 rfl
  refine ⟨?_, ?_, ?_, ?_, by simp⟩
  · exact (Box.new w x y z 24).below (((Below.refl _ _).alloc (Nat.le_refl _) _).alloc (by simp) _) (by simp)
  · have h := (Var3.new (w.alloc (.cells #[x, y, z] 24)) (.string ⟨#[]⟩) (.int .i64 0) (.slice none 0 0) t).of (((Below.refl _ _).alloc (Nat.le_refl _) (.cells (madeCells #[.string ByteArray.empty, .int .i64 0, .slice none 0 0] (n * 3)) t)).block _ (by simp))
    rwa [sz_alloc] at h
  · have h := made3_row ((w.alloc (.cells #[x, y, z] 24)).alloc (.cells #[.string ⟨#[]⟩, .int .i64 0, .slice none 0 0] t)) n t
    rwa [sz_alloc, sz_alloc] at h
  · exact ((((Below.refl _ w).alloc (Nat.le_refl _) _).alloc (by simp) _).alloc (by simp; omega) _)

set_option maxHeartbeats 1000000 in
theorem field_nil (d : Nat) (s : ByteArray) (v : Int) (L : List (T d)) (w : World) (hs : s.size ≤ maxLen) (hL : Hid (0 = L.length)) :
    Calls Try.prog 12 #[.agg #[.string s, .int .i64 v, .slice none 0 0]] w fun e w' => NewTree w.heap.size w' (d + 1) (mk s v L) e ∧ Below w.heap.size w w' := by
  have hnil : ∀ W, (binOp .neq 22 (.slice none 0 0) (.slice none 0 0)).run Try.prog W = .ok (.bool false) W :=
    fun W => run_neq_slice_nil_any W _ _ _ _ _ _ _ Try.underlying22
  go_enter Try.func12, Try.ntmps12
  go_wp2_with fail
  refine (makeField_any _ _ _ _ ⟨_, _, _, rfl⟩).mono ?_
  rintro e w2 ⟨rfl, hb⟩
  obtain ⟨f, t, hv⟩ := (Var3.new (w.alloc (.cells #[.string s, .int .i64 v, .slice none 0 0] 24)) (.string ByteArray.empty) (.int .i64 0) (.slice none 0 0) 38).of (hb.block _ (by simp))
  have hc0 := hv.cell (i := 0) (by omega)
  have hc1 := hv.cell (i := 1) (by omega)
  have hc2 := hv.cell (i := 2) (by omega)
  have hf0 := hv.frozen 0
  have hf1 := hv.frozen 1
  have hf2 := hv.frozen 2
  have hb' : Hid (Below w.heap.size w w2) := (((Below.refl _ w).alloc (Nat.le_refl _) _).alloc (by simp) _).trans (hb.mono (by simp; omega))
  simp at hc0 hc1 hc2 hf0 hf1 hf2
  rw [sz_alloc] at hv
  have hE : Hid _ := ends (a := none) (v := v) (x := .string s) (y := .int .i64 v) (z := .slice none 0 0) hs hL.out (fun _ => ⟨rfl, rfl⟩) (Nat.zero_le _) (kids_nil hL.out) (Nat.le_succ _) hb'.out
  have hB : Hid _ := put3_box (x := .string s) (y := .int .i64 v) (z := .slice none 0 0) hv
  clear hv hb hb'
  go_wp2
  change bodyPost _ _ _ _ _ (put3 w2 (w.heap.size + 1) 0 (.string s) (.int .i64 v) (.slice none 0 0))
  obtain ⟨q0, q1, q2⟩ := hB.out
  clear hB
  generalize put3 w2 (w.heap.size + 1) 0 (.string s) (.int .i64 v) (.slice none 0 0) = w3 at *
  exact bodyPost_ret (v := .agg #[.string s, .int .i64 v, .slice none 0 0]) (by simp [results, Try.results12, go_sem, q0, q1, q2]) rfl hE.out

set_option maxHeartbeats 1000000 in
theorem field_some (d : Nat) (ih : Hid (FieldAt d)) (s : ByteArray) (v : Int) (L : List (T d)) (ad : Addr) (n c : Nat) (S : Nat → Prop) (w : World) (hs : s.size ≤ maxLen) (hL : Hid (n = L.length)) (hn : n ≤ 1048576)
    (HP : Hid (∀ k ∈ L, total d k 0 ≤ 1048576)) (HK : Hid (Kids S w d L (some ad))) :
    Calls Try.prog 12 #[.agg #[.string s, .int .i64 v, .slice (some ad) n c]] w fun e w' => NewTree w.heap.size w' (d + 1) (mk s v L) e ∧ Below w.heap.size w w' := by
  have hnil : ∀ W, (binOp .neq 22 (.slice (some ad) n c) (.slice none 0 0)).run Try.prog W = .ok (.bool true) W :=
    fun W => run_neq_slice_nil_any W _ _ _ _ _ _ _ Try.underlying22
  have hmk := make3 36 38 Try.underlying36 info38 n hn
  have HS : Hid (s.size ≤ maxLen) := hs
  clear hs
  go_enter Try.func12, Try.ntmps12
  go_wp2
  obtain ⟨hbox, hvar, hrow0, hal0, hsz0⟩ := start3 w (.string s) (.int .i64 v) (.slice (some ad) n c) 38 n _ rfl
  generalize ((w.alloc (.cells #[.string s, .int .i64 v, .slice (some ad) n c] 24)).alloc (.cells #[.string ⟨#[]⟩, .int .i64 0, .slice none 0 0] 38)).alloc (.cells (madeCells #[.string ByteArray.empty, .int .i64 0, .slice none 0 0] (n * 3)) 38) = w1 at *
  have hal : Hid _ := hal0
  have hsz : Hid _ := hsz0
  clear hmk hnil hal0 hsz0
  go_loopw [4] (fun i wr => ∃ k : Nat, k ≤ n ∧ i = .int .i64 k ∧ Hid (∃ f, wr.rowIs (w.heap.size + 1 + 1) 38 (n * 3) f ∧ Laid wr (w.heap.size + 1 + 1) d L k f) ∧ Below (w.heap.size + 1 + 1) w1 wr) (fun i _ => n - (intOf i).toNat)
  case atStart => exact ⟨0, Nat.zero_le _, rfl, (by obtain ⟨f, hf⟩ := hrow0; exact ⟨f, hf, fun i hi => by omega⟩), Below.refl _ _⟩
  case round =>
    obtain ⟨k, hk, rfl, HR, hbel⟩ := hrel
    obtain ⟨hb0, hb1, hb2⟩ := hbox.below hbel (by omega)
    have hbw : Hid (Below w.heap.size w wr) := hal.out.trans (hbel.mono (by omega))
    by_cases hlt : k < n
    · have hkL : k < L.length := by rw [← hL.out]; exact hlt
      obtain ⟨f, hrow, hlaid⟩ := HR.out
      obtain ⟨b, o, e, hS, x, y, z, hx, hy, hz, hf⟩ := (show Kids S w d L _ from HK.out).below hbw.out k hkL
      obtain rfl := Option.some.inj e
      have hf' : Hid _ := hf
      have hbt := HP.out _ (List.getElem_mem hkL)
      have HST : Hid (∀ {w' : World} {x y z : Value}, Laid w' (w.heap.size + 1 + 1) d L k f → Fits (fun b => w.heap.size + 1 + 1 < b) w' d L[k] x y z → Laid w' (w.heap.size + 1 + 1) d L (k + 1) (upd3 f (k * 3) x y z)) := fun h1 h2 => h1.step hkL h2
      have HLD : Hid (Laid wr (w.heap.size + 1 + 1) d L k f) := hlaid
      have HRW : Hid (wr.rowIs (w.heap.size + 1 + 1) 38 (n * 3) f) := hrow
      generalize L[k] = tk at *
      clear hf hS hkL hlaid hrow HR
      go_wp2_with fail
      refine (ih.out tk _ _ _ S _ hf'.out hbt).mono ?_
      rintro e w2 ⟨⟨x2, y2, z2, rfl, hF⟩, hb2'⟩
      obtain ⟨s2, v2, a2, n2, c2, rfl, rfl, rfl⟩ := hF.form
      have hsz2 := HRW.out.lt
      have hrow2 := HRW.out.of_block (hb2'.block _ hsz2)
      have hlaid2 := HLD.out.move (w' := w2) fun b _ hb => hb2'.block b hb
      have hF' := hF.move (S' := fun b => w.heap.size + 1 + 1 < b) (w' := w2) fun b hb _ => ⟨by omega, rfl⟩
      have hN : Hid (∃ f, (put3 w2 (w.heap.size + 1 + 1) (k * 3) (.string s2) (.int .i64 v2) (.slice a2 n2 c2)).rowIs (w.heap.size + 1 + 1) 38 (n * 3) f ∧ Laid (put3 w2 (w.heap.size + 1 + 1) (k * 3) (.string s2) (.int .i64 v2) (.slice a2 n2 c2)) (w.heap.size + 1 + 1) d L (k + 1) f) :=
        ⟨_, put3_row hrow2, (HST.out hlaid2 hF').move fun b hb _ => put3_block (by omega)⟩
      have hbN : Hid (Below (w.heap.size + 1 + 1) w1 (put3 w2 (w.heap.size + 1 + 1) (k * 3) (.string s2) (.int .i64 v2) (.slice a2 n2 c2))) := put3_below (hbel.trans (hb2'.mono (by omega))) (Nat.le_refl _)
      have hc0 := hrow2.cell (i := k * 3) (by omega)
      have hc1 := hrow2.cell (i := k * 3 + 1) (by omega)
      have hc2 := hrow2.cell (i := k * 3 + 2) (by omega)
      have hf0 := hrow2.frozen (k * 3)
      have hf1 := hrow2.frozen (k * 3 + 1)
      have hf2 := hrow2.frozen (k * 3 + 2)
      clear hrow2 hlaid2 hF' hF HST HLD HRW hb2' hbel
      go_wp2
      go_roundw
      case rel => exact ⟨k + 1, by omega, by go_num, hN.out, hbN.out⟩
      case measure => simp [intOf]; omega
    · have e : k = n := by omega
      obtain ⟨f, hrow, hlaid⟩ := HR.out
      obtain ⟨f2, t2, hv0⟩ := hvar.of (hbel.block _ (by omega))
      have hK : Hid (Kids (fun b => w.heap.size + 1 + 1 ≤ b) wr d L (some ⟨w.heap.size + 1 + 1, 0, none⟩)) := kids_row hrow hL.out (Nat.le_refl _) (e ▸ hlaid)
      have HV0 : Hid (wr.rowIs (w.heap.size + 1) t2 3 f2) := hv0
      have hsr : Hid (w.heap.size + 1 + 1 < wr.heap.size) := hrow.lt
      clear e hrow hlaid HR hv0 hbel
      go_wp2_with fail
      refine (makeField_any _ _ _ _ ⟨_, _, _, rfl⟩).mono ?_
      rintro e w2 ⟨rfl, hb⟩
      have hv : w2.rowIs (w.heap.size + 1) t2 3 f2 := HV0.out.of_block (hb.block _ (by have := hsr.out; omega))
      have hc0 := hv.cell (i := 0) (by omega)
      have hc1 := hv.cell (i := 1) (by omega)
      have hc2 := hv.cell (i := 2) (by omega)
      have hf0 := hv.frozen 0
      have hf1 := hv.frozen 1
      have hf2 := hv.frozen 2
      have hK2 := (show Kids (fun b => w.heap.size + 1 + 1 ≤ b) wr d L _ from hK.out).move (w' := w2) (S' := fun b => w.heap.size + 1 < b) fun b hb' hl => ⟨by omega, hb.block b hl⟩
      have hE : Hid _ := ends (c := n) (v := v) (x := .string s) (y := .int .i64 v) (z := .slice (some ⟨w.heap.size + 1 + 1, 0, none⟩) n n) HS.out hL.out (fun h => by cases h) (by unfold maxLen; omega) hK2 (Nat.le_succ _) (hbw.out.trans (hb.mono (by have := hbw.out.size; omega)))
      have hB : Hid _ := put3_box (x := .string s) (y := .int .i64 v) (z := .slice (some ⟨w.heap.size + 1 + 1, 0, none⟩) n n) hv
      clear hv hb hK hK2 HV0
      go_wp2
      change bodyPost _ _ _ _ _ (put3 w2 (w.heap.size + 1) 0 (.string s) (.int .i64 v) (.slice (some ⟨w.heap.size + 1 + 1, 0, none⟩) n n))
      obtain ⟨q0, q1, q2⟩ := hB.out
      clear hB
      generalize put3 w2 (w.heap.size + 1) 0 (.string s) (.int .i64 v) (.slice (some ⟨w.heap.size + 1 + 1, 0, none⟩) n n) = w3 at *
      exact bodyPost_ret (v := .agg #[.string s, .int .i64 v, .slice (some ⟨w.heap.size + 1 + 1, 0, none⟩) n n]) (by simp [results, Try.results12, go_sem, q0, q1, q2]) rfl hE.out
theorem field_step (d : Nat) (ih : Hid (FieldAt d)) : FieldAt (d + 1) := by
  intro t x y z S w h htot
  obtain ⟨s, v, L, n, a, c, rfl, hn, rfl, rfl, rfl, hs, ha, hm, hk⟩ := h.open'
  have hlen := Nat.le_trans (len_le (mk s v L) 0) htot
  rw [ks_mk] at hlen
  cases a with
  | none =>
    obtain ⟨rfl, rfl⟩ := ha rfl
    exact field_nil d s v L w hs hn
  | some ad => exact field_some d ih s v L ad n c S w hs hn (by omega) (fun k hk => Nat.le_trans (kid_le (t := mk s v L) hk) htot) hk
theorem field_any : ∀ d, FieldAt d
  | 0 => fun t => Empty.elim t
  | d + 1 => field_step d (field_any d)
end Go.Proofs.Qxb6601217a.Tr
