/- The contract of namesApart over two strictly ascending lists. -/
import Derived.Test.Qxb6602261aApp
import Derived.Deep.LoopGhost
import Derived.Deep.RegionHeld3
namespace Go.Proofs.Qxb6602261a.Nm
open Go.RowKit

/-- The state of namesApart's loop: m1, m2 names are left. -/
structure ApSt (W I : List ByteArray) (w wr : World) (v4 v5 : Value) (a1 a2 : Option Addr) (m1 m2 c1 c2 i j : Nat) (G C : List ByteArray) : Prop where
  hi : i + m1 = W.length
  hj : j + m2 = I.length
  na : NA W I i j G C
  s1 : StrsAt w a1 m1 (fun t => get W (i + t))
  s2 : StrsAt w a2 m2 (fun t => get I (j + t))
  hc1 : m1 ≤ c1
  hc2 : m2 ≤ c2
  n1 : a1 = none → m1 = 0 ∧ c1 = 0
  n2 : a2 = none → m2 = 0 ∧ c2 = 0
  o4 : Own wr w.heap.size v4 G
  o5 : Own wr w.heap.size v5 C
  z4 : G = [] → v4 = .slice none 0 0
  z5 : C = [] → v5 = .slice none 0 0
  ap : v4.ownBlock = none ∨ v4.ownBlock ≠ v5.ownBlock
  bel : Below w.heap.size w wr

theorem ApSt.drew {W I : List ByteArray} {w wr : World} {v4 v5 : Value} {a1 a2 : Option Addr} {m1 m2 c1 c2 i j : Nat} {G C : List ByteArray} (h : ApSt W I w wr v4 v5 a1 a2 m1 m2 c1 c2 i j G C) (n : Nat) :
    ApSt W I w (wr.drewN n) v4 v5 a1 a2 m1 m2 c1 c2 i j G C := { h with o4 := h.o4, o5 := h.o5, bel := below_drewN h.bel n }

theorem shift_get {L : List ByteArray} {i : Nat} : (fun t => (fun t => get L (i + t)) (1 + t)) = fun t => get L (i + 1 + t) := by
  funext t
  show get L (i + (1 + t)) = _
  rw [Nat.add_assoc]

theorem ApSt.eq {W I : List ByteArray} (hW : Asc W) (hI : Asc I) {w wr : World} {v4 v5 : Value} {a1 a2 a1' a2' : Option Addr} {m1 m2 c1 c2 i j : Nat} {G C : List ByteArray}
    (h : ApSt W I w wr v4 v5 a1 a2 (m1 + 1) (m2 + 1) c1 c2 i j G C) (he : get W i = get I j)
    (t1 : StrsAt w a1' m1 (fun t => (fun t => get W (i + t)) (1 + t))) (t2 : StrsAt w a2' m2 (fun t => (fun t => get I (j + t)) (1 + t))) (x1 : ∃ x, a1' = some x) (x2 : ∃ x, a2' = some x) :
    ApSt W I w wr v4 v5 a1' a2' m1 m2 (c1 - 1) (c2 - 1) (i + 1) (j + 1) G C where
  hi := by have := h.hi; omega
  hj := by have := h.hj; omega
  na := h.na.eq hW hI (by have := h.hi; omega) (by have := h.hj; omega) he
  s1 := by rw [← shift_get]; exact t1
  s2 := by rw [← shift_get]; exact t2
  hc1 := by have := h.hc1; omega
  hc2 := by have := h.hc2; omega
  n1 := by obtain ⟨x, rfl⟩ := x1; exact fun e => by cases e
  n2 := by obtain ⟨x, rfl⟩ := x2; exact fun e => by cases e
  o4 := h.o4
  o5 := h.o5
  z4 := h.z4
  z5 := h.z5
  ap := h.ap
  bel := h.bel

theorem ApSt.lss {W I : List ByteArray} (hI : Asc I) {w wr w1 : World} {v4 v4' v5 : Value} {a1 a2 a1' : Option Addr} {m1 m2 c1 c2 i j : Nat} {G C : List ByteArray} {o : Obj}
    (h : ApSt W I w wr v4 v5 a1 a2 (m1 + 1) (m2 + 1) c1 c2 i j G C) (hl : Lt (get W i) (get I j))
    (t1 : StrsAt w a1' m1 (fun t => (fun t => get W (i + t)) (1 + t))) (x1 : ∃ x, a1' = some x)
    (hown : Own w1 w.heap.size v4' (G ++ [get W i])) (hg : (wr.alloc o).grownBy w1 v4.ownBlock) (hb : v4'.ownBlock = v4.ownBlock ∨ v4'.ownBlock = some (wr.alloc o).heap.size) :
    ApSt W I w w1 v4' v5 a1' a2 m1 (m2 + 1) (c1 - 1) c2 (i + 1) j (G ++ [get W i]) C where
  hi := by have := h.hi; omega
  hj := h.hj
  na := h.na.lss hI (by have := h.hi; omega) (by have := h.hj; omega) hl
  s1 := by rw [← shift_get]; exact t1
  s2 := h.s2
  hc1 := by have := h.hc1; omega
  hc2 := h.hc2
  n1 := by obtain ⟨x, rfl⟩ := x1; exact fun e => by cases e
  n2 := h.n2
  o4 := hown
  o5 := (h.o5.alloc o).kept hg (apart_swap h.ap)
  z4 := fun e => by simp at e
  z5 := h.z5
  ap := apart_left h.o5 (by simp) h.ap hb
  bel := below_app h.bel (Nat.le_refl _) h.o4 hg

theorem ApSt.swap {W I : List ByteArray} {w wr : World} {v4 v5 : Value} {a1 a2 : Option Addr} {m1 m2 c1 c2 i j : Nat} {G C : List ByteArray} (h : ApSt W I w wr v4 v5 a1 a2 m1 m2 c1 c2 i j G C) :
    ApSt I W w wr v5 v4 a2 a1 m2 m1 c2 c1 j i C G :=
  ⟨h.hj, h.hi, h.na.swap, h.s2, h.s1, h.hc2, h.hc1, h.n2, h.n1, h.o5, h.o4, h.z5, h.z4, apart_swap h.ap, h.bel⟩

/-- What namesApart leaves. -/
def ApPost (W I : List ByteArray) (w w' : World) (v v' : Value) : Prop :=
  Own w' w.heap.size v (W.filter fun x => !has I x) ∧ Own w' w.heap.size v' (I.filter fun x => !has W x) ∧
    ((W.filter fun x => !has I x) = [] → v = .slice none 0 0) ∧ ((I.filter fun x => !has W x) = [] → v' = .slice none 0 0) ∧ Below w.heap.size w w'

theorem ApSt.done {W I : List ByteArray} {w wr w1 w2 : World} {v4 v5 v1 v2 : Value} {a1 a2 : Option Addr} {m1 m2 c1 c2 i j : Nat} {G C : List ByteArray} (h : ApSt W I w wr v4 v5 a1 a2 m1 m2 c1 c2 i j G C)
    (hd : i = W.length ∨ j = I.length) (hown1 : Own w1 w.heap.size v1 (G ++ W.drop i)) (hnil1 : v1 = .slice none 0 0 ↔ v4 = .slice none 0 0 ∧ m1 = 0) (hat1 : v1.ownBlock = v4.ownBlock ∨ v1.ownBlock = some wr.heap.size) (hgrow1 : wr.grownBy w1 v4.ownBlock)
    (hbel1 : Below w.heap.size w w1) (hown2 : Own w2 w.heap.size v2 (C ++ I.drop j)) (hnil2 : v2 = .slice none 0 0 ↔ v5 = .slice none 0 0 ∧ m2 = 0) (hgrow2 : w1.grownBy w2 v5.ownBlock)
    (hx1 : (W.drop i).length = m1) (hx2 : (I.drop j).length = m2) : ApPost W I w w2 v1 v2 := by
  have hap : v1.ownBlock = none ∨ v1.ownBlock ≠ v5.ownBlock := apart_left h.o5 (Nat.le_refl _) h.ap hat1
  have o5 : Own w1 w.heap.size v5 C := h.o5.kept hgrow1 (apart_swap h.ap)
  refine ⟨?_, ?_, fun e => ?_, fun e => ?_, below_app' hbel1 (Nat.le_refl _) o5 hgrow2⟩
  · rw [← h.na.done hd]; exact hown1.kept hgrow2 hap
  · rw [← h.na.swap.done hd.symm]; exact hown2
  · rw [← h.na.done hd] at e
    obtain ⟨e1, e2⟩ := List.append_eq_nil_iff.1 e
    exact hnil1.2 ⟨h.z4 e1, by rw [← hx1, e2]; rfl⟩
  · rw [← h.na.swap.done hd.symm] at e
    obtain ⟨e1, e2⟩ := List.append_eq_nil_iff.1 e
    exact hnil2.2 ⟨h.z5 e1, by rw [← hx2, e2]; rfl⟩

set_option maxHeartbeats 2000000 in
theorem apart_any (a a' : Option Addr) (n cap n' cap' : Nat) (W I : List ByteArray) (w : World) (hW : W.length = n) (hI : I.length = n') (hAW : Asc W) (hAI : Asc I) (hS : StrsAt w a n (get W)) (hS' : StrsAt w a' n' (get I))
    (hn : n ≤ 65536) (hn' : n' ≤ 65536) (hnc : n ≤ cap) (hnc' : n' ≤ cap') (hz : a = none → n = 0 ∧ cap = 0) (hz' : a' = none → n' = 0 ∧ cap' = 0) :
    Calls Try.prog 41 #[.slice a n cap, .slice a' n' cap'] w fun e w' => ∃ v v', e = .returned (.tuple #[v, v']) ∧ ApPost W I w w' v v' := by
  have H0 : Hid (W.length = n ∧ I.length = n' ∧ Asc W ∧ Asc I ∧ StrsAt w a n (get W) ∧ StrsAt w a' n' (get I) ∧ (a = none → n = 0 ∧ cap = 0) ∧ (a' = none → n' = 0 ∧ cap' = 0)) := ⟨hW, hI, hAW, hAI, hS, hS', hz, hz'⟩
  clear hW hI hAW hAI hS hS' hz hz'
  go_enter Try.func41, Try.ntmps41
  go_wp2
  go_loopg [0, 1, 4, 5] (n + n') (fun k v0 v1 v4 v5 wr => ∃ a1 a2 m1 m2 c1 c2, k = m1 + m2 ∧ m1 ≤ n ∧ m2 ≤ n' ∧ v0 = .slice a1 m1 c1 ∧ v1 = .slice a2 m2 c2 ∧ Hid (∃ i j G C, ApSt W I w wr v4 v5 a1 a2 m1 m2 c1 c2 i j G C))
  case atStart =>
    obtain ⟨h1, h2, h3, h4, h5, h6, h7, h8⟩ := H0.out
    exact ⟨a, a', n, n', cap, cap', rfl, Nat.le_refl _, Nat.le_refl _, rfl, rfl, 0, 0, [], [], by omega, by omega, NA.start _ _, by simpa using h5, by simpa using h6, hnc, hnc', h7, h8, Own.nil _ _, Own.nil _ _, fun _ => rfl, fun _ => rfl, .inl rfl, Below.refl _ _⟩
  case round =>
    obtain ⟨a1, a2, m1, m2, c1, c2, rfl, hm1, hm2, rfl, rfl, HST⟩ := hrel
    by_cases h12 : 0 < m1 ∧ 0 < m2
    · obtain ⟨h1, h2⟩ := h12
      obtain ⟨p, rfl⟩ : ∃ p, m1 = p + 1 := ⟨m1 - 1, by omega⟩
      obtain ⟨q, rfl⟩ : ∃ q, m2 = q + 1 := ⟨m2 - 1, by omega⟩
      obtain ⟨i, j, G, C, hst⟩ := HST.out
      clear HST
      have hs1 := hst.s1.below hst.bel
      have hs2 := hst.s2.below hst.bel
      obtain ⟨b1, o1, rfl, hb1, hq1⟩ := hs1.split h1
      obtain ⟨b2, o2, rfl, hb2, hq2⟩ := hs2.split h2
      have hc1 : wr.cell? ⟨b1, o1, none⟩ = some (.string (get W i)) := by simpa using hs1.cell h1
      have hc2 : wr.cell? ⟨b2, o2, none⟩ = some (.string (get I j)) := by simpa using hs2.cell h2
      obtain ⟨t1, hr1, ht1, hx1⟩ := tail_run b1 o1 p c1
      obtain ⟨t2, hr2, ht2, hx2⟩ := tail_run b2 o2 q c2
      have HT : Hid (StrsAt w t1 p (fun t => (fun t => get W (i + t)) (1 + t)) ∧ StrsAt w t2 q (fun t => (fun t => get I (j + t)) (1 + t)) ∧ (∃ x, t1 = some x) ∧ (∃ x, t2 = some x)) := ⟨ht1 _ _ hst.s1 hst.hc1, ht2 _ _ hst.s2 hst.hc2, hx1, hx2⟩
      have HST : Hid (ApSt W I w wr u4 u5 (some ⟨b1, o1, none⟩) (some ⟨b2, o2, none⟩) (p + 1) (q + 1) c1 c2 i j G C) := hst
      have hl1 : (0 : Int) < ((p : Int) + 1) := by omega
      have hl2 : (0 : Int) < ((q : Int) + 1) := by omega
      clear ht1 ht2 hx1 hx2 hst hs1 hs2 hb1 hb2 hq1 hq2
      by_cases he : get W i = get I j
      · have hcmp : Lib.compareBytes (get W i).data.toList (get I j).data.toList = 0 := by rw [he]; exact cmp_zero _
        have HE : Hid (get W i = get I j) := he
        clear he
        go_wp2_with fail
        go_quiet ((go_at_call 45; exact Calls.quiet_of_same (compare_any _ _ _)))
        have HST2 : Hid (ApSt W I w (wr.drewN nq) u4 u5 (some ⟨b1, o1, none⟩) (some ⟨b2, o2, none⟩) (p + 1) (q + 1) c1 c2 i j G C) := HST.out.drew nq
        clear HST hc1 hc2
        generalize wr.drewN nq = wq at *
        go_wp2_with fail
        go_quiet (fail)
        go_wp2
        go_roundg (p + q)
        case measure => omega
        case rel =>
          obtain ⟨_, _, h3, h4, _⟩ := H0.out
          obtain ⟨g1, g2, g3, g4⟩ := HT.out
          exact ⟨t1, t2, p, q, c1 - 1, c2 - 1, rfl, by omega, by omega, rfl, rfl, i + 1, j + 1, G, C, (HST2.out.eq h3 h4 HE.out g1 g2 g3 g4).drew _⟩
      · by_cases hl : Lt (get W i) (get I j)
        · have hcmp : Lib.compareBytes (get W i).data.toList (get I j).data.toList = -1 := cmp_neg (by have := Lt_iff.1 hl; rwa [Lib.toList_data, Lib.toList_data] at this)
          have HE : Hid (Lt (get W i) (get I j)) := hl
          clear he hl
          go_wp2_with fail
          go_quiet ((go_at_call 45; exact Calls.quiet_of_same (compare_any _ _ _)))
          have HST2 : Hid (ApSt W I w (wr.drewN nq) u4 u5 (some ⟨b1, o1, none⟩) (some ⟨b2, o2, none⟩) (p + 1) (q + 1) c1 c2 i j G C) := HST.out.drew nq
          have hd1 : (wr.drewN nq).cell? ⟨b1, o1, none⟩ = some (.string (get W i)) := hc1
          clear HST hc1 hc2
          generalize wr.drewN nq = wq at *
          have hown := HST2.out.o4
          have hsz := HST2.out.bel.size
          have hblk := World.block_lt_of_cell? wq _ hd1
          have hgl : G.length ≤ 65536 := by
            have h3 := HST2.out.na.g
            have h4 := cnt_le' (fun x => !has I x) W i
            unfold cnt at h4
            rw [← h3] at h4
            have h5 := HST2.out.hi
            have h6 := H0.out.1
            omega
          have HN : Hid (u4.ownBlock ≠ some b1) := by
            intro e
            have h7 := (World.ownsRow.lt hown b1 e).1
            obtain ⟨b, o, hb, hlt, _⟩ := HST2.out.s1.split h1
            simp only [Option.some.injEq, Addr.mk.injEq] at hb
            omega
          go_wp2_with fail
          go_region_held3 (fun w' => w'.cell? ⟨b1, o1, none⟩ = some (.string (get W i)))
            (first
              | go_keep
              | (rw [hgrow.cell_far _ (by simp; omega) (Ne.symm HN.out)]; assumption))
            ((refine step_app (by rfl) (.tmp 29) (.tmp 33) (by rfl) w.heap.size u4 G (by rfl) (Own.drew (hown.alloc _)) (some ⟨wq.heap.size, 0, none⟩) 1 1 [get W i] (by rfl) rfl (StrsAt.drew1 (strsAt_new _ _)) (fun e => by cases e) (by omega) (by simp; omega) ?_; intro v' w1 hown1 hgrow hnil hat))
          have HNEW : Hid (ApSt W I w w1 v' u5 t1 (some ⟨b2, o2, none⟩) p (q + 1) (c1 - 1) c2 (i + 1) j (G ++ [get W i]) C) :=
            HST2.out.lss H0.out.2.2.2.1 HE.out HT.out.1 HT.out.2.2.1 hown1 (grown_drew hgrow) hat
          clear hown1 hgrow hnil hat hown hd1
          go_wp2
          go_roundg (p + (q + 1))
          case measure => omega
          case rel => exact ⟨t1, _, p, q + 1, c1 - 1, c2, rfl, by omega, by omega, rfl, rfl, i + 1, j, _, C, HNEW.out⟩
        · have hl' : Lt (get I j) (get W i) := Lt.tri he hl
          have hcmp : Lib.compareBytes (get W i).data.toList (get I j).data.toList = 1 := cmp_pos (by have := Lt_iff.1 hl'; rwa [Lib.toList_data, Lib.toList_data] at this)
          have HE : Hid (Lt (get I j) (get W i)) := hl'
          clear he hl hl'
          go_wp2_with fail
          go_quiet ((go_at_call 45; exact Calls.quiet_of_same (compare_any _ _ _)))
          have HST2 : Hid (ApSt W I w (wr.drewN nq) u4 u5 (some ⟨b1, o1, none⟩) (some ⟨b2, o2, none⟩) (p + 1) (q + 1) c1 c2 i j G C) := HST.out.drew nq
          have hd2 : (wr.drewN nq).cell? ⟨b2, o2, none⟩ = some (.string (get I j)) := hc2
          clear HST hc1 hc2
          generalize wr.drewN nq = wq at *
          have hown := HST2.out.o5
          have hsz := HST2.out.bel.size
          have hblk := World.block_lt_of_cell? wq _ hd2
          have hcl : C.length ≤ 65536 := by
            have h3 := HST2.out.na.c
            have h4 := cnt_le' (fun x => !has W x) I j
            unfold cnt at h4
            rw [← h3] at h4
            have h5 := HST2.out.hj
            have h6 := H0.out.2.1
            omega
          have HN : Hid (u5.ownBlock ≠ some b2) := by
            intro e
            have h7 := (World.ownsRow.lt hown b2 e).1
            obtain ⟨b, o, hb, hlt, _⟩ := HST2.out.s2.split h2
            simp only [Option.some.injEq, Addr.mk.injEq] at hb
            omega
          go_wp2_with fail
          go_region_held3 (fun w' => w'.cell? ⟨b2, o2, none⟩ = some (.string (get I j)))
            (first
              | go_keep
              | (rw [hgrow.cell_far _ (by simp; omega) (Ne.symm HN.out)]; assumption))
            ((refine step_app (by rfl) (.tmp 40) (.tmp 44) (by rfl) w.heap.size u5 C (by rfl) (Own.drew (hown.alloc _)) (some ⟨wq.heap.size, 0, none⟩) 1 1 [get I j] (by rfl) rfl (StrsAt.drew1 (strsAt_new _ _)) (fun e => by cases e) (by omega) (by simp; omega) ?_; intro v' w1 hown1 hgrow hnil hat))
          have HNEW : Hid (ApSt W I w w1 u4 v' (some ⟨b1, o1, none⟩) t2 (p + 1) q c1 (c2 - 1) i (j + 1) G (C ++ [get I j])) :=
            (HST2.out.swap.lss H0.out.2.2.1 HE.out HT.out.2.1 HT.out.2.2.2 hown1 (grown_drew hgrow) hat).swap
          clear hown1 hgrow hnil hat hown hd2
          go_wp2
          go_roundg (p + 1 + q)
          case measure => omega
          case rel => exact ⟨_, t2, p + 1, q, c1, c2 - 1, rfl, by omega, by omega, rfl, rfl, i, j + 1, G, _, HNEW.out⟩
    · obtain ⟨i, j, G, C, hst⟩ := HST.out
      clear HST
      have hown := hst.o4
      have hgl : G.length ≤ 65536 := by
        have h3 := hst.na.g
        have h4 := cnt_le' (fun x => !has I x) W i
        unfold cnt at h4
        rw [← h3] at h4
        have h5 := hst.hi
        have h6 := H0.out.1
        omega
      have hcl : C.length ≤ 65536 := by
        have h3 := hst.na.c
        have h4 := cnt_le' (fun x => !has W x) I j
        unfold cnt at h4
        rw [← h3] at h4
        have h5 := hst.hj
        have h6 := H0.out.2.1
        omega
      have hx1 : (W.drop i).length = m1 := by have := hst.hi; simp; omega
      have hx2 : (I.drop j).length = m2 := by have := hst.hj; simp; omega
      have hs1 : StrsAt wr a1 m1 (get (W.drop i)) := (hst.s1.below hst.bel).congr fun t _ => (get_drop W i t).symm
      have hs2 : StrsAt w a2 m2 (get (I.drop j)) := hst.s2.congr fun t _ => (get_drop I j t).symm
      have hsz := hst.bel.size
      have HD : Hid (i = W.length ∨ j = I.length) := by
        have h1 := hst.hi
        have h2 := hst.hj
        by_cases e : m1 = 0
        · left; omega
        · right; omega
      have HA : Hid ((W.drop i).length = m1 ∧ (I.drop j).length = m2 ∧ StrsAt wr a1 m1 (get (W.drop i)) ∧ StrsAt w a2 m2 (get (I.drop j))) := ⟨hx1, hx2, hs1, hs2⟩
      have HST : Hid (ApSt W I w wr u4 u5 a1 a2 m1 m2 c1 c2 i j G C) := hst
      have h2' : 0 < m1 → m2 = 0 := by omega
      clear hst hx1 hx2 hs1 hs2 h12
      by_cases h1 : 0 < m1
      · have h2 : m2 = 0 := h2' h1
        clear h2'
        subst h2
        go_wp2_with (first | (at_builtin; refine wpList_app rfl (.tmp 48) (.tmp 49) rfl w.heap.size u4 G rfl hown a1 _ c1 (W.drop i) rfl HA.out.1 HA.out.2.2.1 HST.out.n1 (by omega) (by omega) ?_; intro v1 w1 hown1 hgrow1 hnil1 hat1; have hown5 : Own w1 w.heap.size u5 C := HST.out.o5.kept hgrow1 (apart_swap HST.out.ap); have hbel1 : Hid (Below w.heap.size w w1) := below_app' HST.out.bel (Nat.le_refl _) hown hgrow1; have hsz1 := hbel1.out.size) | (at_builtin; refine wpList_app rfl (.tmp 51) (.tmp 52) rfl w.heap.size u5 C rfl hown5 a2 _ c2 (I.drop j) rfl HA.out.2.1 (HA.out.2.2.2.below hbel1.out) HST.out.n2 (by omega) (by omega) ?_; intro v2 w2 hown2 hgrow2 hnil2 hat2))
        go_ret2
        exact ⟨v1, v2, rfl, ApSt.done HST.out HD.out hown1 (by simpa using hnil1) hat1 hgrow1 hbel1.out hown2 (by simpa using hnil2) hgrow2 HA.out.1 HA.out.2.1⟩
      · have h1' : m1 = 0 := by omega
        subst h1'
        clear h2'
        go_wp2_with (first | (at_builtin; refine wpList_app rfl (.tmp 48) (.tmp 49) rfl w.heap.size u4 G rfl hown a1 _ c1 (W.drop i) rfl HA.out.1 HA.out.2.2.1 HST.out.n1 (by omega) (by omega) ?_; intro v1 w1 hown1 hgrow1 hnil1 hat1; have hown5 : Own w1 w.heap.size u5 C := HST.out.o5.kept hgrow1 (apart_swap HST.out.ap); have hbel1 : Hid (Below w.heap.size w w1) := below_app' HST.out.bel (Nat.le_refl _) hown hgrow1; have hsz1 := hbel1.out.size) | (at_builtin; refine wpList_app rfl (.tmp 51) (.tmp 52) rfl w.heap.size u5 C rfl hown5 a2 _ c2 (I.drop j) rfl HA.out.2.1 (HA.out.2.2.2.below hbel1.out) HST.out.n2 (by omega) (by omega) ?_; intro v2 w2 hown2 hgrow2 hnil2 hat2))
        go_ret2
        exact ⟨v1, v2, rfl, ApSt.done HST.out HD.out hown1 (by simpa using hnil1) hat1 hgrow1 hbel1.out hown2 (by simpa using hnil2) hgrow2 HA.out.1 HA.out.2.1⟩

end Go.Proofs.Qxb6602261a.Nm
