/- The walk of the law FnFieldPathsAgreeWithWorklistModel. -/
import Derived.Test.Qxb6601217aPairs
import Derived.Deep.QuietTactic
import Derived.BigQuiet
import Derived.Deep.DeepCutAuto
import Derived.Deep.RegionHeld3
namespace Go.Proofs.Qxb6601217a.Tr
open Go.RowKit

set_option maxRecDepth 100000 in
set_option maxHeartbeats 4000000 in
theorem law_any (d : Nat) (t : T d) (x y z : Value) (p : ByteArray) (a : Option Addr) (n c : Nat) (F : Nat → ByteArray × Int) (S : Nat → Prop) (w : World) (hf : Fits S w d t x y z) (hp : p.size ≤ maxLen) (hn : n ≤ maxLen) (ha : a = none → n = 0 ∧ c = 0) (hF : EntsAt w a n F) (hFs : ∀ i, i < n → (F i).1.size ≤ maxLen) :
    Calls Try.prog 3 #[.agg #[x, y, z], .string p, .slice a n c] w fun e w' => LawIs w e w' := by
  obtain ⟨s, iv, a1, n1, c1, rfl, rfl, rfl⟩ := hf.form
  have hbw := hid ((Below.refl w.heap.size w).alloc (Nat.le_refl _) (.cells #[.string s, .int .i64 iv, .slice a1 n1 c1] 24))
  have HF0 := hid hF
  have HX := hid (hf.below hbw.out)
  have HF := hid (hF.below hbw.out)
  have hrow := hid (Var3.new w (.string s) (.int .i64 iv) (.slice a1 n1 c1) 24)
  obtain ⟨q0, q1, q2⟩ := Box.new w (.string s) (.int .i64 iv) (.slice a1 n1 c1) 24
  have hsz : Hid ((w.alloc (.cells #[.string s, .int .i64 iv, .slice a1 n1 c1] 24)).heap.size = w.heap.size + 1) := sz_alloc _ _
  have HFS := hid hFs
  have HA := hid ha
  have HPN := hid (And.intro hp hn)
  clear hf hF hFs ha hp hn
  go_enter Try.func3, Try.ntmps3
  go_wp2_with fail
  generalize w.alloc (.cells #[.string s, .int .i64 iv, .slice a1 n1 c1] 24) = wa at *
  refine (fit_any d t _ _ _ p a n c F S _ HX.out HPN.out.1 HPN.out.2 HF.out HFS.out).mono ?_
  rintro e w1 ⟨⟨r, rfl, hr⟩, hb1⟩
  have HB1 := hid (hbw.out.trans (hb1.mono hbw.out.size))
  cases r with
  | false =>
    clear hb1 hr
    go_wp2
    go_ret
    exact ⟨rfl, HB1.out⟩
  | true =>
    obtain ⟨hn, htot⟩ := hr rfl
    have HX1 := hid (HX.out.below hb1)
    have HF1 := hid (HF.out.below hb1)
    have hlt : w.heap.size < wa.heap.size := by rw [hsz.out]; omega
    obtain ⟨k0, k1, k2⟩ := (show Box wa w.heap.size _ _ _ from ⟨q0, q1, q2⟩).below hb1 hlt
    have hrow1 := hid (hrow.out.of (hb1.block _ hlt))
    have hs1 := hid (Nat.lt_of_lt_of_le hlt hb1.size)
    have HTOT := hid htot
    have HT0 := hid (Nat.le_trans (total_mono d t (Nat.zero_le p.size)) htot)
    clear hb1 hr htot q0 q1 q2 hlt HX HF hrow hsz hbw HPN
    go_wp2_with fail
    refine (clone_any d t _ _ _ S _ HX1.out HT0.out).mono ?_
    rintro e w2 ⟨⟨x2, y2, z2, rfl, hF2⟩, hb2⟩
    obtain ⟨s2, iv2, a2, n2, c2, rfl, rfl, rfl⟩ := hF2.form
    obtain ⟨f2, t2, hv2⟩ := hrow1.out.of (hb2.block _ hs1.out)
    have hc0 := hv2.cell (i := 0) (by omega)
    have hc1 := hv2.cell (i := 1) (by omega)
    have hc2 := hv2.cell (i := 2) (by omega)
    have hf0 := hv2.frozen 0
    have hf1 := hv2.frozen 1
    have hf2 := hv2.frozen 2
    have HB3 : Hid (Below w.heap.size w (put3 w2 w.heap.size 0 (.string s2) (.int .i64 iv2) (.slice a2 n2 c2))) := put3_below (HB1.out.trans (hb2.mono (Nat.le_of_lt hs1.out))) (Nat.le_refl _)
    have HX3 : Hid (Fits (fun b => w.heap.size < b) (put3 w2 w.heap.size 0 (.string s2) (.int .i64 iv2) (.slice a2 n2 c2)) d t (.string s2) (.int .i64 iv2) (.slice a2 n2 c2)) := hF2.move fun b hb _ => ⟨Nat.lt_of_lt_of_le hs1.out hb, put3_block (by have := hs1.out; omega)⟩
    have HBX := hid (put3_box (x := .string s2) (y := .int .i64 iv2) (z := .slice a2 n2 c2) hv2)
    have hs3 : Hid (w.heap.size < (put3 w2 w.heap.size 0 (.string s2) (.int .i64 iv2) (.slice a2 n2 c2)).heap.size) := by unfold Hid; rw [put3_size]; exact Nat.lt_of_lt_of_le hs1.out hb2.size
    have HF3 := hid (HF0.out.below HB3.out)
    have hnil : ∀ (af : Option Addr) (cf : Nat) (W : World), (binOp .neq 25 (.slice af n cf) (.slice none 0 0)).run Try.prog W = .ok (.bool (!af.isNone)) W := fun af cf W => run_neq_slice_nil_any W _ _ _ _ _ _ _ Try.underlying25
    clear hF2 hb2 hv2 HX1 HF1 hrow1 hs1 HB1 HF0
    go_upto_if 24 with (go_at_call 10; change Calls _ _ _ (put3 w2 w.heap.size 0 (.string s2) (.int .i64 iv2) (.slice a2 n2 c2)) _; refine (entries_any a n c F _ (by omega) HA.out HF3.out).mono ?_; rintro e w4 ⟨af, cf, rfl, haf, hF4, hb4⟩)
    have HX4 := hid (HX3.out.below hb4)
    have HBX4 := hid (HBX.out.below hb4 hs3.out)
    have HB4 := hid (HB3.out.trans (hb4.mono HB3.out.size))
    have hs4 := hid (Nat.lt_of_lt_of_le hs3.out hb4.size)
    have HF4 := hid hF4
    have HAF := hid haf
    clear hb4 hF4 haf HX3 HBX HB3 hs3 HF3 hnil hc0 hc1 hc2 hf0 hf1 hf2 k0 k1 k2
    go_cut [7] (fun v wx => Hid (Own2 34 wx w4.heap.size v ((List.range n).map F) ∧ Below w4.heap.size w4 wx))
    case first =>
      cases af with
      | none =>
        obtain ⟨rfl, rfl⟩ := HAF.out rfl
        go_wp2
        go_meet
        case rel => exact ⟨World.ownsRow_nil _ _ _ _, Below.refl _ _⟩
      | some ad =>
        have hmk := make2 29 34 Try.underlying29 info34 n (by omega)
        simp only [Option.isSome_some]
        go_wp2
        have hst : Hid (Row2 34 (w4.alloc (.cells (madeCells #[.string ByteArray.empty, .int .i64 0] (n * 2)) 34)) w4.heap.size n 0 F) := by
          obtain ⟨f, hf⟩ := made2_row w4 n 34
          exact ⟨f, hf, fun i hi => by omega⟩
        clear hmk
        go_loopw [8] (fun i wr => ∃ k : Nat, k ≤ n ∧ i = .int .i64 k ∧ Hid (Row2 34 wr w4.heap.size n k F) ∧ Below w4.heap.size w4 wr) (fun i _ => n - (intOf i).toNat)
        case atStart => exact ⟨0, Nat.zero_le _, rfl, hst.out, (Below.refl _ _).alloc (Nat.le_refl _) _⟩
        case round =>
          obtain ⟨k, hk, rfl, HR, hbel⟩ := hrel
          by_cases hlt : k < n
          · obtain ⟨b, o, e, hc0, hc1⟩ := HF4.out.below hbel k hlt
            obtain rfl := Option.some.inj e
            obtain ⟨x, y, r0, r1, f0, f1⟩ := HR.out.spot hlt
            have HN := hid HR.out.put
            have HB := hid (put2_below (k := k * 2) (x := .string (F k).1) (y := .int .i64 (F k).2) hbel (Nat.le_refl _))
            have hbb : b < w4.heap.size := by
              obtain ⟨b', o', e', h1, _⟩ := HF4.out k hlt
              simp only [Option.some.injEq, Addr.mk.injEq] at e'
              rw [e'.1]
              exact World.block_lt_of_cell? w4 _ h1
            have HS3 : Hid ((put2 wr w4.heap.size (k * 2) (.string (F k).1) (.int .i64 (F k).2)).cell? ⟨b, o + k * 2, none⟩ = some (.string (F k).1) ∧ (put2 wr w4.heap.size (k * 2) (.string (F k).1) (.int .i64 (F k).2)).cell? ⟨b, o + k * 2 + 1, none⟩ = some (.int .i64 (F k).2)) := by
              have e : (put2 wr w4.heap.size (k * 2) (.string (F k).1) (.int .i64 (F k).2)).heap[b]? = wr.heap[b]? := by
                unfold put2
                rw [Below.heap_setCell _ _ _ _ (by simp; omega), Below.heap_setCell _ _ _ _ (by simp; omega)]
              refine ⟨?_, ?_⟩
              · rw [← hc0]; simp only [World.cell?, e]
              · rw [← hc1]; simp only [World.cell?, e]
            generalize (F k).1 = g1 at *
            generalize (F k).2 = g2 at *
            clear HR hbel
            go_wp2_with fail
            go_region_held3 (fun w' => w'.cell? ⟨b, o + k * 2, none⟩ = some (.string g1) ∧ w'.cell? ⟨b, o + k * 2 + 1, none⟩ = some (.int .i64 g2))
              (first
                | exact ⟨hc0, hc1⟩
                | exact HS3.out)
              (fail)
            have HN' : Hid (Row2 34 (put2 wr w4.heap.size (k * 2) (.string g1) (.int .i64 g2)).drew w4.heap.size n (k + 1) F) := HN.out
            have HB' : Hid (Below w4.heap.size w4 (put2 wr w4.heap.size (k * 2) (.string g1) (.int .i64 g2)).drew) := HB.out.drew
            clear HN HB HS3
            go_wp2
            go_roundw
            case rel => exact ⟨k + 1, by omega, by go_num, HN'.out, HB'.out⟩
            case measure => simp [intOf]; omega
          · have e : k = n := by omega
            subst e
            have HE : Hid (Own2 34 wr w4.heap.size (.slice (some ⟨w4.heap.size, 0, none⟩) k k) ((List.range k).map F)) := HR.out.own (Nat.le_refl _) (by unfold maxLen; omega)
            clear HR
            go_wp2
            go_meet
            case rel => exact ⟨HE.out, hbel⟩
    case rest =>
      have HO5 := hid hcut.out.1
      have HF5 := hid (HF4.out.below hcut.out.2)
      have HX5 := hid (HX4.out.below hcut.out.2)
      have HB5 := hid (HB4.out.trans (hcut.out.2.mono HB4.out.size))
      have HBX5 := HBX4.out.below hcut.out.2 hs4.out
      have hs5 := hid (Nat.lt_of_lt_of_le hs4.out hcut.out.2.size)
      have hs45 := hid hcut.out.2.size
      have HA5 := hid (show Fits (fun b => b < w4.heap.size) wc d t (.string s2) (.int .i64 iv2) (.slice a2 n2 c2) from HX4.out.move (S' := fun b => b < w4.heap.size) fun b _ hl => ⟨hl, hcut.out.2.block b hl⟩)
      obtain ⟨k0, k1, k2⟩ := HBX5
      have HF4b := HF4
      have HW45 := hid hcut.out.2
      clear hcut HX4 HB4 HBX4 HF4 HX5
      go_wp2_with fail
      refine (field_any d t _ _ _ _ _ HA5.out HT0.out).mono ?_
      rintro e w6 ⟨⟨x6, y6, z6, rfl, hF6⟩, hb6⟩
      have HO6 := hid (HO5.out.below hb6)
      have HFt6 := hid (show Fits (fun b => u7.ownBlock ≠ some b) w6 d t x6 y6 z6 from hF6.move fun b hb _ => ⟨fun e => by have := (World.ownsRow.lt HO5.out b e).2; omega, rfl⟩)
      have HF6 := hid (HF5.out.below hb6)
      have HA6 := hid (HA5.out.below hb6)
      have HB6 := hid (HB5.out.trans (hb6.mono HB5.out.size))
      have HBX6 := hid ((show Box wc w.heap.size _ _ _ from ⟨k0, k1, k2⟩).below hb6 hs5.out)
      have hs6 := hid (Nat.le_trans hs45.out hb6.size)
      have hlR : ((List.range n).map F).length = n := by simp
      have HCN : Hid (((List.range n).map F).length + total d t p.size ≤ 4194304) := by have h := HTOT.out; unfold Hid; rw [hlR]; omega
      have HW46 := hid (HW45.out.trans (hb6.mono HW45.out.size))
      clear hF6 hb6 HO5 HF5 HA5 HB5 k0 k1 k2 hs5 hs45
      go_wp2_with fail
      refine (fieldPaths_any d t x6 y6 z6 p u7 _ w4.heap.size _ HFt6.out HTOT.out HCN.out HO6.out hs6.out).mono ?_
      rintro e w7 ⟨v7, rfl, ho7, hoff7⟩
      have HA7 := hid (show Fits (fun b => b < w4.heap.size) w7 d t (.string s2) (.int .i64 iv2) (.slice a2 n2 c2) from HA6.out.move fun b hb _ => ⟨hb, hoff7.below.block b hb⟩)
      have HB7 := hid (HB6.out.trans (hoff7.below.mono (Nat.le_of_lt hs4.out)))
      have HF7 := hid (show EntsAt w7 af n F from fun i hi => by
        obtain ⟨b, o, e, h1, h2⟩ := HF4b.out i hi
        have hl := World.block_lt_of_cell? w4 _ h1
        have e7 : w7.heap[b]? = w4.heap[b]? := (hoff7.below.block b hl).trans (HW46.out.block b hl)
        exact ⟨b, o, e, by rw [← h1]; simp only [World.cell?, e7], by rw [← h2]; simp only [World.cell?, e7]⟩)
      obtain ⟨k0, k1, k2⟩ := HBX6.out.below hoff7.below hs4.out
      have HO7 := hid ho7
      clear hoff7 ho7 HA6 HB6 HBX6 HFt6 HO6 HF6 HCN hs6
      go_wp2_with fail
      refine (model_any d t _ _ _ p _ _ HA7.out HTOT.out).mono ?_
      rintro e w8 ⟨v8, rfl, ho8, hb8⟩
      have HF8 := hid (HF7.out.below hb8)
      have HB8 := hid (HB7.out.trans (hb8.mono HB7.out.size))
      obtain ⟨a7, c7, rfl, hg7, hc7⟩ := (HO7.out.below hb8).get
      obtain ⟨a8, c8, rfl, hg8, hc8⟩ := ho8.get
      have HC7 := hid hc7
      have HC8 := hid hc8
      have HPL := hid (Nat.le_trans (paths_length d t p) HTOT.out)
      rw [List.length_append, hlR] at *
      generalize pathsF d t p = PF at *
      clear hc7 hc8 hg7 hg8 ho8 hb8 HO7 HF7 HB7 k0 k1 k2 HA7
      have hl8 : PF.length ≤ 1048576 := HPL.out
      have HPF : Hid (∃ l, l = PF.length) := ⟨_, rfl⟩
      obtain ⟨l, hl⟩ := HPF.out
      rw [← hl] at hl8 ⊢
      have HLL := hid hl
      clear hl HPF HPL
      go_wp2
      go_loopw [11] (fun i wr => ∃ k : Nat, k ≤ n ∧ i = .int .i64 k ∧ Hid (Below w8.heap.size w8 wr)) (fun i _ => n - (intOf i).toNat)
      case atStart => exact ⟨0, Nat.zero_le _, rfl, Below.refl _ _⟩
      case round =>
        obtain ⟨k, hk, rfl, HR⟩ := hrel
        by_cases hlt : k < n
        · obtain ⟨b, o, rfl, hc0, hc1⟩ := HF8.out k hlt
          obtain ⟨g, e7, hd0, hd1⟩ := HC7.out k (F k) (by rw [List.getElem?_append_left (by simp; omega)]; simp [hlt])
          subst e7
          have m0 := (HR.out.cell (World.block_lt_of_cell? w8 _ hc0)).trans hc0
          have m1 := (HR.out.cell (World.block_lt_of_cell? w8 _ hc1)).trans hc1
          have m2 := (HR.out.cell (World.block_lt_of_cell? w8 _ hd0)).trans hd0
          have m3 := (HR.out.cell (World.block_lt_of_cell? w8 _ hd1)).trans hd1
          generalize (F k).1 = g1 at *
          generalize (F k).2 = g2 at *
          clear hc0 hc1 hd0 hd1
          go_wp2_with fail
          go_big_quiet (fail)
          have HR2 : Hid (Below w8.heap.size w8 (wr.drewN nq)) := HR.out.trans ⟨rfl, rfl, rfl, Nat.le_refl _, fun _ _ => rfl⟩
          clear HR m0 m1 m2 m3
          generalize wr.drewN nq = wq at *
          go_wp2
          go_roundw
          case rel => exact ⟨k + 1, by omega, by go_num, HR2.out⟩
          case measure => simp [intOf]; omega
        · go_wp2
          go_loopw [12] (fun i wr => ∃ k : Nat, k ≤ l ∧ i = .int .i64 k ∧ Hid (Below w8.heap.size w8 wr)) (fun i _ => l - (intOf i).toNat)
          case atStart => exact ⟨0, Nat.zero_le _, rfl, HR.out⟩
          case round =>
            obtain ⟨j, hj, rfl, HJ⟩ := hrel
            by_cases hltj : j < l
            · have hjP : j < PF.length := by rw [← HLL.out]; exact hltj
              obtain ⟨g, e7, hd0, hd1⟩ := HC7.out (n + j) PF[j] (by rw [List.getElem?_append_right (by simp)]; simp [hjP])
              obtain ⟨g8, e8, hc0, hc1⟩ := HC8.out j PF[j] (by simp [hjP])
              subst e7
              subst e8
              have m0 := (HJ.out.cell (World.block_lt_of_cell? w8 _ hc0)).trans hc0
              have m1 := (HJ.out.cell (World.block_lt_of_cell? w8 _ hc1)).trans hc1
              have m2 := (HJ.out.cell (World.block_lt_of_cell? w8 _ hd0)).trans hd0
              have m3 := (HJ.out.cell (World.block_lt_of_cell? w8 _ hd1)).trans hd1
              have hb8 := World.block_lt_of_cell? _ _ m0
              have hb7 := World.block_lt_of_cell? _ _ m2
              generalize PF[j].1 = g1 at *
              generalize PF[j].2 = g2 at *
              clear hc0 hc1 hd0 hd1 hjP
              go_wp2_with fail
              have HJ2 : Hid (Below w8.heap.size w8 (wr.alloc (.cells #[.string g1, .int .i64 g2] 34))) := HJ.out.alloc HJ.out.size _
              have ral := (Below.refl wr.heap.size wr).alloc (Nat.le_refl _) (.cells #[.string g1, .int .i64 g2] 34)
              have r0 : (wr.alloc (.cells #[.string g1, .int .i64 g2] 34)).cell? ⟨wr.heap.size, 0, none⟩ = some (.string g1) := by unfold World.cell?; rw [heap_alloc_new]; rfl
              have r1 : (wr.alloc (.cells #[.string g1, .int .i64 g2] 34)).cell? ⟨wr.heap.size, 1, none⟩ = some (.int .i64 g2) := by unfold World.cell?; rw [heap_alloc_new]; rfl
              have r2 := (ral.cell hb8).trans m0
              have r3 := (ral.cell hb8).trans m1
              clear ral m0 m1 m2 m3 hb8 hb7
              generalize wr.alloc (.cells #[.string g1, .int .i64 g2] 34) = wv at *
              generalize wr.heap.size = bv at *
              go_big_quiet (fail)
              have HJ3 : Hid (Below w8.heap.size w8 (wv.drewN nq)) := HJ2.out.trans ⟨rfl, rfl, rfl, Nat.le_refl _, fun _ _ => rfl⟩
              clear HJ2 r0 r1 r2 r3
              generalize wv.drewN nq = wq at *
              go_wp2
              go_roundw
              case rel => exact ⟨j + 1, by omega, by go_num, HJ3.out⟩
              case measure => simp [intOf]; omega
            · have hBf := hid (HB8.out.trans (HJ.out.mono HB8.out.size))
              go_wp2
              go_ret
              exact ⟨rfl, hBf.out⟩
end Go.Proofs.Qxb6601217a.Tr
