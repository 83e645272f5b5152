/- faultsPathsFit, faultsCloneEntries, ZZFieldPaths. -/
import Derived.Test.Qxb6601217aModel
namespace Go.Proofs.Qxb6601217a.Tr
open Go.RowKit

theorem paths_any : ∀ d, PathsAt d
  | 0 => fun t => Empty.elim t
  | d + 1 => paths_step d (paths_any d)

theorem fieldPaths_any (d : Nat) (t : T d) (x y z : Value) (p : ByteArray) (v : Value) (E : List (ByteArray × Int)) (B : Nat) (w : World)
    (hf : Fits (fun b => v.ownBlock ≠ some b) w d t x y z) (htot : total d t p.size ≤ 1048576) (hcnt : E.length + total d t p.size ≤ 4194304) (hown : Own2 34 w B v E) (hB : B ≤ w.heap.size) :
    Calls Try.prog 11 #[.agg #[x, y, z], .string p, v] w fun e w' => PathsIs B w v (E ++ pathsF d t p) e w' := by
  obtain ⟨s, iv, a, n, c, rfl, rfl, rfl⟩ := hf.form
  have hbel := (Below.refl w.heap.size w).alloc (Nat.le_refl _) (.cells #[.string s, .int .i64 iv, .slice a n c] 38)
  have HC := hid (paths_any d t _ _ _ p v E B _ (hf.below hbel) htot hcnt (hown.below hbel) (Nat.le_trans hB hbel.size))
  have HOF := hid (Off.of_below v hbel hB)
  clear hf htot hcnt hown hbel
  go_enter Try.func11, Try.ntmps11
  go_wp2_with fail
  refine HC.out.mono ?_
  rintro e w2 ⟨v2, rfl, ho2, hoff2⟩
  have HR := hid (HOF.out.trans hoff2)
  have HO2 := hid ho2
  clear HC HOF hoff2 ho2
  go_wp2
  go_ret
  exact ⟨_, rfl, HO2.out, HR.out⟩

/-- The slice's entries are F. -/
def EntsAt (w : World) (a : Option Addr) (n : Nat) (F : Nat → ByteArray × Int) : Prop :=
  ∀ i, i < n → ∃ b o, a = some ⟨b, o, none⟩ ∧ w.cell? ⟨b, o + i * 2, none⟩ = some (.string (F i).1) ∧ w.cell? ⟨b, o + i * 2 + 1, none⟩ = some (.int .i64 (F i).2)
theorem EntsAt.below {w w' : World} {a : Option Addr} {n : Nat} {F : Nat → ByteArray × Int} (h : EntsAt w a n F) (hb : Below w.heap.size w w') : EntsAt w' a n F := by
  intro i hi
  obtain ⟨b, o, ha, h1, h2⟩ := h i hi
  have hl := World.block_lt_of_cell? w _ h1
  exact ⟨b, o, ha, (hb.cell (p := ⟨b, o + i * 2, none⟩) hl).trans h1, (hb.cell (p := ⟨b, o + i * 2 + 1, none⟩) hl).trans h2⟩

/-- The guard: if it says yes, all is small. -/
def FitIs (n tot : Nat) (e : Ending) : Prop := ∃ r : Bool, e = .returned (.bool r) ∧ (r = true → n ≤ 65536 ∧ tot ≤ 1048576)
set_option maxHeartbeats 1000000 in
theorem fit_any (d : Nat) (t : T d) (x y z : Value) (p : ByteArray) (a : Option Addr) (n c : Nat) (F : Nat → ByteArray × Int) (S : Nat → Prop) (w : World) (hf : Fits S w d t x y z) (hp : p.size ≤ maxLen) (hn : n ≤ maxLen) (hF : EntsAt w a n F) (hFs : ∀ i, i < n → (F i).1.size ≤ maxLen) :
    Calls Try.prog 8 #[.agg #[x, y, z], .string p, .slice a n c] w fun e w' => FitIs n (total d t p.size) e ∧ Below w.heap.size w w' := by
  obtain ⟨s, iv, a1, n1, c1, rfl, rfl, rfl⟩ := hf.form
  unfold maxLen at hp hn
  have hbw := hid ((Below.refl w.heap.size w).alloc (Nat.le_refl _) (.cells #[.string s, .int .i64 iv, .slice a1 n1 c1] 24))
  by_cases h1 : 1048576 < p.size
  · go_enter Try.func8, Try.ntmps8
    go_wp2
    go_ret
    exact ⟨⟨false, rfl, fun h => by cases h⟩, hbw.out⟩
  by_cases h2 : 1048576 < n
  · go_enter Try.func8, Try.ntmps8
    go_wp2
    go_ret
    exact ⟨⟨false, rfl, fun h => by cases h⟩, hbw.out⟩
  by_cases h3 : 1048576 < p.size + 24 * n
  · go_enter Try.func8, Try.ntmps8
    go_wp2
    go_ret
    exact ⟨⟨false, rfl, fun h => by cases h⟩, hbw.out⟩
  have HF := hid (hF.below hbw.out)
  have HFS := hid hFs
  have HX := hid (hf.below hbw.out)
  have hbox := Box.new w (.string s) (.int .i64 iv) (.slice a1 n1 c1) 24
  clear hf hF hFs
  go_enter Try.func8, Try.ntmps8
  go_wp2
  generalize w.alloc (.cells #[.string s, .int .i64 iv, .slice a1 n1 c1] 24) = wa at *
  obtain ⟨q0, q1, q2⟩ := hbox
  go_loop [7, 8] (fun u i => ∃ k r : Nat, k ≤ n ∧ i = .int .i64 k ∧ u = .int .i64 r ∧ r ≤ 1048576) (fun _ i => n - (intOf i).toNat)
  case atStart => exact ⟨0, p.size + 24 * n, Nat.zero_le _, rfl, by go_num, by omega⟩
  case round =>
    obtain ⟨k, r, hk, rfl, rfl, hr⟩ := hrel
    by_cases hlt : k < n
    · obtain ⟨b, o, rfl, hc0, hc1⟩ := HF.out k hlt
      have hsz := HFS.out k hlt
      unfold maxLen at hsz
      generalize F k = f at *
      obtain ⟨f1, f2⟩ := f
      dsimp only at hc0 hc1 hsz
      by_cases h4 : 1048576 < f1.size
      · go_wp2
        go_ret
        exact ⟨⟨false, rfl, fun h => by cases h⟩, hbw.out⟩
      by_cases h5 : 1048576 < r + f1.size
      · go_wp2
        go_ret
        exact ⟨⟨false, rfl, fun h => by cases h⟩, hbw.out⟩
      go_wp2
      go_round
      case rel => exact ⟨k + 1, r + f1.size, by omega, by go_num, by go_num, by omega⟩
      case measure => simp [intOf]; omega
    · go_wp2_with fail
      refine (bytes_any d t _ _ _ _ S _ HX.out (by omega)).mono ?_
      rintro e w2 ⟨⟨r2, rfl, hr2⟩, hb2⟩
      have hbel2 := hid (hbw.out.trans (hb2.mono hbw.out.size))
      have HX2 := hid (HX.out.below hb2)
      have hbb := World.block_lt_of_cell? wa _ q0
      have k0 : w2.cell? ⟨w.heap.size, 0, none⟩ = some (.string s) := (hb2.cell (p := ⟨w.heap.size, 0, none⟩) hbb).trans q0
      have k1 : w2.cell? ⟨w.heap.size, 1, none⟩ = some (.int .i64 iv) := (hb2.cell (p := ⟨w.heap.size, 1, none⟩) hbb).trans q1
      have k2 : w2.cell? ⟨w.heap.size, 2, none⟩ = some (.slice a1 n1 c1) := (hb2.cell (p := ⟨w.heap.size, 2, none⟩) hbb).trans q2
      clear hb2
      by_cases h6 : r2 < 0
      · go_wp2
        go_ret
        exact ⟨⟨false, rfl, fun h => by cases h⟩, hbel2.out⟩
      go_wp2_with fail
      refine (cost_any d t _ _ _ p.size 0 S _ HX2.out (by omega) (by omega)).mono ?_
      rintro e w3 ⟨hc, hb3⟩
      have hbel3 := hid (hbel2.out.trans (hb3.mono hbel2.out.size))
      clear hb3
      rcases hc with rfl | ⟨rfl, hle⟩
      · go_wp2
        go_ret
        exact ⟨⟨false, rfl, fun h => by cases h⟩, hbel3.out⟩
      · rw [Nat.zero_add] at hle ⊢
        obtain ⟨tot, hT⟩ : ∃ tot, tot = total d t p.size := ⟨_, rfl⟩
        rw [← hT] at hle ⊢
        have HT := hid hT
        clear hT
        go_wp2
        go_ret
        exact ⟨⟨true, by simp, fun _ => ⟨by omega, by rw [← HT.out]; exact hle⟩⟩, hbel3.out⟩

/-! ### faultsCloneEntries -/
theorem made2_row (w : World) (n : Nat) (t : TypeId) : ∃ f, (w.alloc (.cells (madeCells #[.string ByteArray.empty, .int .i64 0] (n * 2)) t)).rowIs w.heap.size t (n * 2) f := by
  refine ⟨fun i => (madeCells #[.string ByteArray.empty, .int .i64 0] (n * 2))[i]!, ?_⟩
  have h := World.rowIs_alloc w (madeCells #[.string ByteArray.empty, .int .i64 0] (n * 2)) t (fun i => (madeCells #[.string ByteArray.empty, .int .i64 0] (n * 2))[i]!) (fun i hi => by simp [hi])
  rwa [size_madeCells] at h
theorem make2 (t e : TypeId) (ht : Try.prog.underlying t = some (.slice e)) (hinfo : (Try.prog.info? e).map (fun i => (i.zero, i.size, i.bytes)) = some (some (.agg #[.string ByteArray.empty, .int .i64 0]), 2, 24)) (n : Nat) (hn : n ≤ 1048576) (w : World) :
    (Instr.makeSlice t (.int .i64 (n : Int)) (.int .i64 (n : Int))).run Try.prog w = .ok (.slice (some ⟨w.heap.size, 0, none⟩) n n) (w.alloc (.cells (madeCells #[.string ByteArray.empty, .int .i64 0] (n * 2)) e)) := by
  obtain ⟨i, hi, hzz⟩ := Option.map_eq_some_iff.1 hinfo
  simp only [Prod.mk.injEq] at hzz
  obtain ⟨hz, hs, hb⟩ := hzz
  have hr := run_make (P := Try.prog) w t e i _ ht hi hz .i64 .i64 n n (by omega) (Int.le_refl _) (by rw [hb]; omega) (by omega)
  simp only [Int.toNat_natCast, hs, Value.cells] at hr
  exact hr
/-- The first k entries of the row at g are F. -/
def Row2 (e : TypeId) (w : World) (g n k : Nat) (F : Nat → ByteArray × Int) : Prop := ∃ f, w.rowIs g e (n * 2) f ∧ ∀ i, i < k → f (i * 2) = .string (F i).1 ∧ f (i * 2 + 1) = .int .i64 (F i).2
def put2 (w : World) (g k : Nat) (x y : Value) : World := (w.setCell ⟨g, k, none⟩ x).setCell ⟨g, k + 1, none⟩ y
theorem Row2.put {e : TypeId} {w : World} {g n k : Nat} {F : Nat → ByteArray × Int} (h : Row2 e w g n k F) : Row2 e (put2 w g (k * 2) (.string (F k).1) (.int .i64 (F k).2)) g n (k + 1) F := by
  obtain ⟨f, hr, hf⟩ := h
  refine ⟨_, (hr.set (k * 2) (.string (F k).1)).set (k * 2 + 1) (.int .i64 (F k).2), fun i hi => ?_⟩
  by_cases e : i = k
  · subst e
    simp
  · obtain ⟨h1, h2⟩ := hf i (by omega)
    refine ⟨?_, ?_⟩
    · rw [if_neg (by omega), if_neg (by omega)]; exact h1
    · rw [if_neg (by omega), if_neg (by omega)]; exact h2
theorem Row2.ents {e : TypeId} {w : World} {g n : Nat} {F : Nat → ByteArray × Int} (h : Row2 e w g n n F) : EntsAt w (some ⟨g, 0, none⟩) n F := by
  obtain ⟨f, hr, hf⟩ := h
  intro i hi
  refine ⟨g, 0, rfl, ?_, ?_⟩
  · rw [Nat.zero_add, hr.cell (by omega), (hf i hi).1]
  · rw [Nat.zero_add, hr.cell (by omega), (hf i hi).2]
theorem Row2.spot {e : TypeId} {w : World} {g n k : Nat} {F : Nat → ByteArray × Int} (h : Row2 e w g n k F) (hk : k < n) : ∃ x y, w.cell? ⟨g, k * 2, none⟩ = some x ∧ w.cell? ⟨g, k * 2 + 1, none⟩ = some y ∧ w.frozen? ⟨g, k * 2, none⟩ = false ∧ w.frozen? ⟨g, k * 2 + 1, none⟩ = false := by
  obtain ⟨f, hr, _⟩ := h
  exact ⟨_, _, hr.cell (by omega), hr.cell (by omega), hr.frozen _, hr.frozen _⟩
theorem put2_below {B g k : Nat} {w wr : World} {x y : Value} (h : Below B w wr) (hg : B ≤ g) : Below B w (put2 wr g k x y) :=
  (h.setCell (p := ⟨g, k, none⟩) hg x).setCell (p := ⟨g, k + 1, none⟩) hg y

theorem entries_nil (w : World) : Calls Try.prog 10 #[.slice none 0 0] w fun e w' => e = .returned (.slice none 0 0) ∧ w' = w := by
  have hnil : ∀ W, (binOp .eql 25 (.slice none 0 0) (.slice none 0 0)).run Try.prog W = .ok (.bool true) W :=
    fun W => Lib.run_eql_slice_nil W _ _ _ _ _ _ _ Try.underlying25
  go_enter Try.func10, Try.ntmps10
  go_wp2
  go_ret
  exact ⟨rfl, rfl⟩
set_option maxHeartbeats 1000000 in
theorem entries_some (ad : Addr) (n c : Nat) (F : Nat → ByteArray × Int) (w : World) (hn : n ≤ 1048576) (hF : EntsAt w (some ad) n F) :
    Calls Try.prog 10 #[.slice (some ad) n c] w fun e w' => e = .returned (.slice (some ⟨w.heap.size, 0, none⟩) n n) ∧ EntsAt w' (some ⟨w.heap.size, 0, none⟩) n F ∧ Below w.heap.size w w' := by
  have hnil : ∀ W, (binOp .eql 25 (.slice (some ad) n c) (.slice none 0 0)).run Try.prog W = .ok (.bool false) W :=
    fun W => Lib.run_eql_slice_nil W _ _ _ _ _ _ _ Try.underlying25
  have hmk := make2 25 31 Try.underlying25 info31 n hn
  have HF := hid hF
  clear hF
  go_enter Try.func10, Try.ntmps10
  go_wp2
  have hst : Hid (Row2 31 (w.alloc (.cells (madeCells #[.string ByteArray.empty, .int .i64 0] (n * 2)) 31)) w.heap.size n 0 F) := by
    obtain ⟨f, hf⟩ := made2_row w n 31
    exact ⟨f, hf, fun i hi => by omega⟩
  clear hmk hnil
  go_loopw [4] (fun i wr => ∃ k : Nat, k ≤ n ∧ i = .int .i64 k ∧ Hid (Row2 31 wr w.heap.size n k F) ∧ Below w.heap.size w wr) (fun i _ => n - (intOf i).toNat)
  case atStart => exact ⟨0, Nat.zero_le _, rfl, hst.out, (Below.refl _ _).alloc (Nat.le_refl _) _⟩
  case round =>
    obtain ⟨k, hk, rfl, HR, hbel⟩ := hrel
    by_cases hlt : k < n
    · obtain ⟨b, o, e, hc0, hc1⟩ := HF.out.below hbel k hlt
      obtain rfl := Option.some.inj e
      obtain ⟨x, y, s0, s1, f0, f1⟩ := HR.out.spot hlt
      have HN := hid HR.out.put
      have HB := hid (put2_below (k := k * 2) (x := .string (F k).1) (y := .int .i64 (F k).2) hbel (Nat.le_refl _))
      generalize (F k).1 = f1' at *
      generalize (F k).2 = f2' at *
      clear HR hbel
      go_wp2
      go_roundw
      case rel => exact ⟨k + 1, by omega, by go_num, HN.out, HB.out⟩
      case measure => simp [intOf]; omega
    · have e : k = n := by omega
      subst e
      have HE := hid HR.out.ents
      clear HR
      go_wp2
      go_ret
      exact ⟨rfl, HE.out, hbel⟩
end Go.Proofs.Qxb6601217a.Tr
