/- (field).paths and ZZFieldPaths: the paths appended to a row of the caller's own. -/
import Derived.Test.Qxb6601217aClone
import Derived.Deep.AppendLies
import Derived.Deep.Cut
import Derived.Deep.CutBlock
import Derived.Deep.LoopGhost
import Derived.Deep.CutRange
namespace Go.Proofs.Qxb6601217a.Tr
open Go.RowKit

/-- The cells of a list of paths and values. -/
def prs (E : List (ByteArray × Int)) : List Value := E.flatMap fun q => [.string q.1, .int .i64 q.2]
theorem prs_length (E : List (ByteArray × Int)) : (prs E).length = E.length * 2 := by
  induction E with
  | nil => rfl
  | cons x E ih =>
    unfold prs at *
    simp only [List.flatMap_cons, List.length_append, List.length_cons, List.length_nil, ih]
    omega
theorem prs_append (E F : List (ByteArray × Int)) : prs (E ++ F) = prs E ++ prs F := by unfold prs; exact List.flatMap_append
theorem prs_one (E : List (ByteArray × Int)) : ∀ u ∈ prs E, u.oneCell' = true := by
  intro u hu
  obtain ⟨q, _, hq⟩ := List.mem_flatMap.1 hu
  simp only [List.mem_cons, List.not_mem_nil, or_false] at hq
  rcases hq with rfl | rfl <;> rfl

/-- The value is a row of the call's own (its block from B on) that holds E. -/
def Own2 (e : TypeId) (w : World) (B : Nat) (v : Value) (E : List (ByteArray × Int)) : Prop := w.ownsRow B e 2 v E.length (prs E)
theorem Own2.alloc {e : TypeId} {w : World} {B : Nat} {v : Value} {E : List (ByteArray × Int)} (h : Own2 e w B v E) (o : Obj) : Own2 e (w.alloc o) B v E := World.ownsRow.alloc h o
theorem Own2.push {e : TypeId} {w : World} {B : Nat} {v : Value} {E : List (ByteArray × Int)} {q : ByteArray} {i : Int} (h : w.ownsRow B e 2 v (E.length + 1) (prs E ++ [.string q, .int .i64 i])) : Own2 e w B v (E ++ [(q, i)]) := by
  unfold Own2
  rw [prs_append, List.length_append]
  exact h
theorem Own2.block {e : TypeId} {w w' : World} {B : Nat} {v : Value} {E : List (ByteArray × Int)} (h : Own2 e w B v E) (hb : ∀ k, v.ownBlock = some k → w'.heap[k]? = w.heap[k]?) : Own2 e w' B v E := by
  refine ⟨h.1, ?_⟩
  rcases h.2 with h2 | ⟨g, cap, cur, hv, hg, hh, r⟩
  · exact .inl h2
  · exact .inr ⟨g, cap, cur, hv, hg, by rw [hb g (by rw [hv]; rfl)]; exact hh, r⟩
theorem Own2.below {e : TypeId} {w w' : World} {B : Nat} {v : Value} {E : List (ByteArray × Int)} (h : Own2 e w B v E) (hb : Below w.heap.size w w') : Own2 e w' B v E :=
  h.block fun k hk => hb.block k (World.ownsRow.lt h k hk).2

/-- Between w and w' nothing old is turned but v's row; v' lies in v's row or anew. -/
structure Off (B : Nat) (w w' : World) (v v' : Value) : Prop where
  below : Below B w w'
  block : ∀ b, b < w.heap.size → v.ownBlock ≠ some b → w'.heap[b]? = w.heap[b]? ∧ v'.ownBlock ≠ some b
theorem Off.refl (B : Nat) (w : World) (v : Value) : Off B w w v v := ⟨Below.refl _ _, fun _ _ h => ⟨rfl, h⟩⟩
theorem Off.trans {B : Nat} {w w' w'' : World} {v v' v'' : Value} (h : Off B w w' v v') (k : Off B w' w'' v' v'') : Off B w w'' v v'' :=
  ⟨h.below.trans k.below, fun b hb hv => by
    obtain ⟨h1, h2⟩ := h.block b hb hv
    obtain ⟨k1, k2⟩ := k.block b (Nat.lt_of_lt_of_le hb h.below.size) h2
    exact ⟨k1.trans h1, k2⟩⟩
theorem Off.of_below {B : Nat} {w w' : World} (v : Value) (h : Below w.heap.size w w') (hB : B ≤ w.heap.size) : Off B w w' v v :=
  ⟨h.mono hB, fun b hb hv => ⟨h.block b hb, hv⟩⟩
theorem Off.grown {B : Nat} {w w' : World} {v : Value} {e size n : Nat} {xs : List Value} (ho : w.ownsRow B e size v n xs) (hB : B ≤ w.heap.size) {g m cap H : Nat} (hg : w.grownBy w' v.ownBlock) (hat : v.ownBlock = some g ∨ g = H) (hH : w.heap.size ≤ H) : Off B w w' v (.slice (some ⟨g, 0, none⟩) m cap) :=
  ⟨(Below.refl B w).grown hg hB fun k hk => (ho.lt k hk).1, fun b hb hv => ⟨hg.block b hb (fun e => hv e.symm), by
    intro e
    have e' : g = b := by simpa [Value.ownBlock] using e
    rcases hat with h | h
    · exact hv (e' ▸ h)
    · omega⟩⟩
theorem Kids.off {B : Nat} {w w' : World} {v v' : Value} {d : Nat} {L : List (T d)} {a : Option Addr} (h : Kids (fun b => v.ownBlock ≠ some b) w d L a) (ho : Off B w w' v v') : Kids (fun b => v'.ownBlock ≠ some b) w' d L a :=
  h.move fun b hs hl => ⟨(ho.block b hl hs).2, (ho.block b hl hs).1⟩

/-- What paths leaves. -/
def PathsIs (B : Nat) (w : World) (v : Value) (E : List (ByteArray × Int)) (e : Ending) (w' : World) : Prop := ∃ v', e = .returned v' ∧ Own2 34 w' B v' E ∧ Off B w w' v v'
def PathsAt (d : Nat) : Prop := ∀ (t : T d) (x y z : Value) (p : ByteArray) (v : Value) (E : List (ByteArray × Int)) (B : Nat) (w : World),
    Fits (fun b => v.ownBlock ≠ some b) w d t x y z → total d t p.size ≤ 1048576 → E.length + total d t p.size ≤ 4194304 → Own2 34 w B v E → B ≤ w.heap.size →
    Calls Try.prog 21 #[.agg #[x, y, z], .string p, v] w fun e w' => PathsIs B w v (E ++ pathsF d t p) e w'

theorem info34 : (Try.prog.info? 34).map (fun i => (i.zero, i.size, i.bytes)) = some (some (.agg #[.string ByteArray.empty, .int .i64 0]), 2, 24) := by kernel_rfl
theorem joinL_right (p : Nat) (s : ByteArray) : s.size ≤ joinL p s := by
  unfold joinL
  split <;> (try split) <;> omega
theorem flat_count {d : Nat} (L : List (T d)) (q : ByteArray) (m : Nat) (hm : q.size ≤ m) {k : Nat} (hk : k < L.length) : ((L.take k).flatMap fun t => pathsF d t q).length + total d L[k] q.size ≤ sumK d L m := by
  have h1 := flat_length (L.take k) (fun t => pathsF d t q) (fun t => total d t m) fun t _ => Nat.le_trans (paths_length d t q) (total_mono d t hm)
  have h2 := sumK_take L m hk
  have h3 := sumK_take_le L m (k + 1)
  have h4 := total_mono d L[k] hm
  unfold sumK at *
  omega
theorem flat_full {d : Nat} (L : List (T d)) (q : ByteArray) (m : Nat) (hm : q.size ≤ m) : (L.flatMap fun t => pathsF d t q).length ≤ sumK d L m :=
  flat_length L (fun t => pathsF d t q) (fun t => total d t m) fun t _ => Nat.le_trans (paths_length d t q) (total_mono d t hm)
theorem pair_new (w : World) (x y : Value) (t : TypeId) : ∀ j u, [x, y][j]? = some u → (w.alloc (.cells #[x, y] t)).cell? ((⟨w.heap.size, 0, none⟩ : Addr).add j) = some u :=
  World.news_of_block (cs := #[x, y]) (t := t) (fr := (0, 0)) (heap_alloc_new w (.cells #[x, y] t))
/-- What holds while paths goes over the fields. -/
def PInv (B : Nat) (w wr : World) (v v1 : Value) (E : List (ByteArray × Int)) : Prop := Own2 34 wr B v1 E ∧ Off B w wr v v1
theorem PInv.app {B : Nat} {w w1 : World} {v : Value} {E : List (ByteArray × Int)} {q : ByteArray} {i : Int} {g cap H : Nat} {o : Obj} (ho : Own2 34 w B v E) (hB : B ≤ w.heap.size)
    (h1 : w1.ownsRow B 34 2 (.slice (some ⟨g, 0, none⟩) (E.length + 1) cap) (E.length + 1) (prs E ++ [.string q, .int .i64 i])) (hg : (w.alloc o).grownBy w1 v.ownBlock) (hat : v.ownBlock = some g ∨ g = H) (hH : H = w.heap.size + 1) :
    PInv B w w1 v (.slice (some ⟨g, 0, none⟩) (E.length + 1) cap) (E ++ [(q, i)]) :=
  ⟨Own2.push h1, (Off.of_below v ((Below.refl _ _).alloc (Nat.le_refl _) o) hB).trans (Off.grown (ho.alloc o) (by simp; omega) hg hat (by simp; omega))⟩
theorem PInv.step {B : Nat} {w wr w2 : World} {v v1 v2 : Value} {E F : List (ByteArray × Int)} {o : Obj} (h : PInv B w wr v v1 E) (hB : B ≤ w.heap.size) (h2 : Own2 34 w2 B v2 F) (ho : Off B (wr.alloc o) w2 v1 v2) : PInv B w w2 v v2 F :=
  ⟨h2, h.2.trans ((Off.of_below v1 ((Below.refl _ _).alloc (Nat.le_refl _) o) (Nat.le_trans hB h.2.below.size)).trans ho)⟩

theorem Box.off {B b : Nat} {w w' : World} {v v' x y z : Value} (h : Box w b x y z) (ho : Off B w w' v v') (hb : b < w.heap.size) (hv : v.ownBlock ≠ some b) : Box w' b x y z := by
  have e := (ho.block b hb hv).1
  refine ⟨?_, ?_, ?_⟩
  · rw [← h.1]; simp only [World.cell?, e]
  · rw [← h.2.1]; simp only [World.cell?, e]
  · rw [← h.2.2]; simp only [World.cell?, e]
def item (j : Nat) : ByteArray := if j = 0 then first else last
def doneI (d : Nat) (L : List (T d)) (q : ByteArray) (j : Nat) : List (ByteArray × Int) := (List.range j).flatMap fun i => L.flatMap fun t => pathsF d t (q ++ dot ++ item i)
theorem doneI_succ (d : Nat) (L : List (T d)) (q : ByteArray) (j : Nat) : doneI d L q (j + 1) = doneI d L q j ++ L.flatMap fun t => pathsF d t (q ++ dot ++ item j) := by
  unfold doneI
  rw [List.range_succ, List.flatMap_append]
  simp only [List.flatMap_cons, List.flatMap_nil, List.append_nil]
theorem doneI_two (d : Nat) (L : List (T d)) (q : ByteArray) : doneI d L q 2 = (L.flatMap fun t => pathsF d t (q ++ dot ++ first)) ++ (L.flatMap fun t => pathsF d t (q ++ dot ++ last)) := by
  rw [doneI_succ, doneI_succ]
  rfl
theorem item_size (q : ByteArray) (j : Nat) : (q ++ dot ++ item j).size ≤ q.size + 6 := by
  unfold item
  split
  · rw [first_size]; omega
  · rw [last_size]; omega
theorem doneI_length (d : Nat) (L : List (T d)) (q : ByteArray) (j : Nat) : (doneI d L q j).length ≤ j * sumK d L (q.size + 6) := by
  induction j with
  | zero => exact Nat.zero_le _
  | succ j ih =>
    rw [doneI_succ, List.length_append, Nat.add_mul]
    have := flat_full L (q ++ dot ++ item j) (q.size + 6) (item_size q j)
    omega

def Two (w : World) (b : Nat) : Prop := ∀ j, j < 2 → w.cell? ⟨b, j, none⟩ = some (.string (item j))
theorem strs_two (w : World) (x y : Value) (t : TypeId) (hx : x = .string first) (hy : y = .string last) : Two (w.alloc (.cells #[x, y] t)) w.heap.size := by
  subst hx
  subst hy
  intro j hj
  rcases (show j = 0 ∨ j = 1 by omega) with rfl | rfl <;> (unfold World.cell?; rw [heap_alloc_new]; rfl)
theorem two_off {B b j : Nat} {w w' : World} {v v' : Value} (h : Two w b) (ho : Off B w w' v v') (hb : b < w.heap.size) (hv : v.ownBlock ≠ some b) (hj : j < 2) : w'.cell? ⟨b, j, none⟩ = some (.string (item j)) := by
  rw [← h j hj]
  simp only [World.cell?, (ho.block b hb hv).1]

set_option maxHeartbeats 4000000 in
theorem paths_step (d : Nat) (ih : Hid (PathsAt d)) : PathsAt (d + 1) := by
  intro t x y z p v E B w h htot hcnt hown hB
  obtain ⟨s, iv, L, n, a, c, rfl, hn, rfl, rfl, rfl, hs, ha, hm, hk⟩ := h.open'
  have hp := Nat.lt_of_lt_of_le (total_pos (d + 1) (mk s iv L) p.size) htot
  have hte := total_eq d (mk s iv L) p.size
  rw [nm_mk, vl_mk, ks_mk, ← join_size] at hte
  have hsj := joinL_right p.size s
  rw [← join_size] at hsj
  have hpF : pathsF (d + 1) (mk s iv L) p = (if iv = 0 then [] else [(join p s, iv)]) ++ (if iv = 4 then (L.flatMap fun k => pathsF d k (join p s ++ dot ++ first)) ++ (L.flatMap fun k => pathsF d k (join p s ++ dot ++ last)) else L.flatMap fun k => pathsF d k (join p s)) := rfl
  have hq : (join p s).size ≤ 1048576 := by omega
  have hn20 : n ≤ 1048576 := by have h := Nat.le_trans (len_le (mk s iv L) p.size) htot; rw [ks_mk] at h; omega
  clear hm
  have HT := hid hte
  have HF := hid hpF
  have HTOT := hid htot
  have HCNT := hid hcnt
  have hss : s.size ≤ 1048576 := by omega
  have hpp : p.size ≤ 1048576 := by omega
  have hEl : E.length ≤ 4194304 := by omega
  clear hte hpF hsj hp hs
  generalize total (d + 1) (mk s iv L) p.size = tot at *
  generalize pathsF (d + 1) (mk s iv L) p = PF at *
  clear htot hcnt
  have HN := hid hn
  have hbw : Hid (Below w.heap.size w (w.alloc (.cells #[.string s, .int .i64 iv, .slice a n c] 38))) := (Below.refl _ _).alloc (Nat.le_refl _) _
  have HK := hid (hk.below hbw.out)
  have HO := hid (hown.below hbw.out)
  have hnb : Hid (v.ownBlock ≠ some w.heap.size) := fun e => by have := (World.ownsRow.lt hown _ e).2; omega
  have hbox := Box.new w (.string s) (.int .i64 iv) (.slice a n c) 38
  have hlt : Hid (w.heap.size < (w.alloc (.cells #[.string s, .int .i64 iv, .slice a n c] 38)).heap.size) := by unfold Hid; simp
  clear hn hk hown h ha
  obtain ⟨q, hqe⟩ : ∃ q, q = join p s := ⟨_, rfl⟩
  have HQ := hid hqe
  rw [← hqe] at HT HF hq
  clear hqe
  go_enter Try.func21, Try.ntmps21
  go_upto_block 0 with fail
  generalize w.alloc (.cells #[.string s, .int .i64 iv, .slice a n c] 38) = wa at *
  have HBX := hid hbox
  obtain ⟨hx0, hx1, hx2⟩ := hbox
  go_cut [7] from 15 to 28 (fun u wx => u = .string q ∧ wx = wa)
  case first =>
    by_cases h0 : p = ByteArray.empty
    · have e : q = s := by rw [HQ.out]; unfold join; rw [if_pos h0]
      subst h0
      go_wp2
      go_meet
      case rel => exact ⟨by rw [e], rfl⟩
    · have h0' := isE_no h0
      by_cases h1 : s = ByteArray.empty
      · have e : q = p := by rw [HQ.out]; unfold join; rw [if_neg h0, if_pos h1]
        subst h1
        go_wp2
        go_meet
        case rel => exact ⟨by rw [e], rfl⟩
      · have h1' := isE_no h1
        have e : q = p ++ dot ++ s := by rw [HQ.out]; unfold join; rw [if_neg h0, if_neg h1]
        go_wp2
        go_meet
        case rel => exact ⟨by rw [e]; rfl, rfl⟩
  case rest =>
    obtain ⟨rfl, rfl⟩ := hcut
    have hBc : B ≤ wc.heap.size := Nat.le_trans hB hbw.out.size
    obtain ⟨i0, hi, hz0, hz1, hz2⟩ := info_parts info34
    by_cases hi0 : iv = 0
    · subst hi0
      have HP : Hid (PInv B wc wc v v E) := ⟨HO.out, Off.refl _ _ _⟩
      have HT4 : Hid (tot = 1 + q.size + sumK d L q.size) := HT.out
      have HF4 : Hid (E ++ PF = E ++ L.flatMap fun t => pathsF d t q) := by have h := HF.out; unfold Hid; rw [h]; rfl
      clear HT HF
      go_wp2
      go_loopw [2, 45] (fun fs i wr => ∃ k : Nat, k ≤ n ∧ i = .int .i64 k ∧ Hid (PInv B wc wr v fs (E ++ (L.take k).flatMap fun t => pathsF d t q))) (fun _ i _ => n - (intOf i).toNat)
      case atStart => exact ⟨0, Nat.zero_le _, rfl, by have h := HP.out; unfold Hid; simpa using h⟩
      case round =>
        obtain ⟨k, hk, rfl, HI⟩ := hrel
        by_cases hltk : k < n
        · have hkL : k < L.length := by rw [← HN.out]; exact hltk
          obtain ⟨b, o, rfl, hS, x, y, z, hx, hy, hz, hf⟩ := (HK.out.off HI.out.2) k hkL
          obtain ⟨s2, iv2, a2, n2, c2, rfl, rfl, rfl⟩ := hf.form
          have HCT : Hid ((E ++ (L.take k).flatMap fun t => pathsF d t q).length + total d L[k] q.size ≤ 4194304 ∧ total d L[k] q.size ≤ 1048576) := by
            have h1 := flat_count L q q.size (Nat.le_refl _) hkL
            have h2 := HT4.out
            have h3 := HTOT.out
            have h4 := HCNT.out
            skip
            unfold Hid
            rw [List.length_append]
            omega
          have HFT := hid (show E ++ (L.take (k + 1)).flatMap (fun t => pathsF d t q) = (E ++ (L.take k).flatMap fun t => pathsF d t q) ++ pathsF d L[k] q by rw [flat_take L _ hkL, List.append_assoc])
          have hbb := World.block_lt_of_cell? wr _ hx
          have hfA := hid (hf.below ((Below.refl _ wr).alloc (Nat.le_refl _) (.cells #[.string s2, .int .i64 iv2, .slice a2 n2 c2] 38)))
          have hoA := hid (HI.out.1.alloc (.cells #[.string s2, .int .i64 iv2, .slice a2 n2 c2] 38))
          have hBr : Hid (B ≤ (wr.alloc (.cells #[.string s2, .int .i64 iv2, .slice a2 n2 c2] 38)).heap.size) := by have := HI.out.2.below.size; unfold Hid; rw [sz_alloc]; omega
          generalize L[k] = tk at *
          generalize hEk : (E ++ (L.take k).flatMap fun t => pathsF d t q) = Ek at *
          clear hf hS hkL hEk
          go_wp2_with fail
          refine (ih.out tk _ _ _ q _ Ek B _ hfA.out HCT.out.2 HCT.out.1 hoA.out hBr.out).mono ?_
          rintro e w2 ⟨v2, rfl, ho2, hoff2⟩
          have HI2 := hid (HI.out.step hBc ho2 hoff2)
          clear ho2 hoff2 hfA hoA hBr
          go_wp2
          go_roundw
          case rel => exact ⟨k + 1, by omega, by go_num, by rw [HFT.out]; exact HI2.out⟩
          case measure => simp [intOf]; omega
        · have e : k = n := by omega
          have eL : L.take k = L := by rw [e, HN.out]; exact List.take_length
          rw [eL] at HI
          clear eL e
          go_wp2
          go_ret
          refine ⟨_, rfl, ?_, (Off.of_below v hbw.out hB).trans HI.out.2⟩
          rw [HF4.out]
          exact HI.out.1
    by_cases hi4 : iv = 4
    · subst hi4
      have HT4 : Hid (tot = 1 + q.size + (sumK d L (q.size + 6) + sumK d L (q.size + 6))) := HT.out
      have HF4 : Hid (E ++ PF = E ++ [(q, 4)] ++ ((L.flatMap fun t => pathsF d t (q ++ dot ++ first)) ++ (L.flatMap fun t => pathsF d t (q ++ dot ++ last)))) := by have h := HF.out; unfold Hid; rw [h, List.append_assoc]; rfl
      clear HT HF
      go_wp2_with (at_builtin; refine wpList_append_lies _ rfl _ _ 29 rfl B 34 i0 (.agg #[.string ByteArray.empty, .int .i64 0]) 2 24 Try.underlying29 hi hz0 hz1 hz2 rfl (by decide) _ E.length (prs E) rfl (HO.out.alloc _) ⟨wc.heap.size, 0, none⟩ 1 1 [.string q, .int .i64 4] rfl rfl (pair_new _ _ _ _) (prs_one [(q, 4)]) (by decide) (by unfold maxLen; omega) (by omega) (by have := hbw.out.size; simp; omega) (wc.heap.size + 1) (by simp) ?_)
      intro g cap w1 hown1 hgrow hat hlt1
      have HP := hid (PInv.app HO.out hBc hown1 hgrow hat rfl)
      obtain ⟨hy0, hy1, hy2⟩ := HBX.out.off HP.out.2 hlt.out hnb.out
      clear hown1 hgrow hat hlt1 hx0 hx1 hx2
      have HE1 := hid (show (E ++ [(q, 4)]).length = E.length + 1 by simp)
      generalize E ++ [(q, 4)] = E1 at *
      generalize Value.slice (some ⟨g, 0, none⟩) (E.length + 1) cap = v1 at *
      go_wp2
      have hal : Below w1.heap.size w1 (w1.alloc (.cells #[.string ⟨#[102, 105, 114, 115, 116]⟩, .string ⟨#[108, 97, 115, 116]⟩] 9)) := (Below.refl _ _).alloc (Nat.le_refl _) _
      have hBw1 : B ≤ w1.heap.size := Nat.le_trans hBc HP.out.2.below.size
      have HOFF := hid (HP.out.2.trans (Off.of_below v1 hal hBw1))
      have HKl := hid (HK.out.off HOFF.out)
      have HBl := hid (HBX.out.off HOFF.out hlt.out hnb.out)
      have HS2 := hid (strs_two w1 (.string ⟨#[102, 105, 114, 115, 116]⟩) (.string ⟨#[108, 97, 115, 116]⟩) 9 rfl rfl)
      have hn1 : Hid (v1.ownBlock ≠ some w.heap.size) := (HOFF.out.block _ hlt.out hnb.out).2
      have hn2 : Hid (v1.ownBlock ≠ some w1.heap.size) := fun e => by have := (World.ownsRow.lt HP.out.1 _ e).2; omega
      have HPl : Hid (PInv B (w1.alloc (.cells #[.string ⟨#[102, 105, 114, 115, 116]⟩, .string ⟨#[108, 97, 115, 116]⟩] 9)) (w1.alloc (.cells #[.string ⟨#[102, 105, 114, 115, 116]⟩, .string ⟨#[108, 97, 115, 116]⟩] 9)) v1 v1 E1) := ⟨HP.out.1.alloc _, Off.refl _ _ _⟩
      have hs1 : Hid (w.heap.size < (w1.alloc (.cells #[.string ⟨#[102, 105, 114, 115, 116]⟩, .string ⟨#[108, 97, 115, 116]⟩] 9)).heap.size) := by have h1 := hal.size; have h2 := HP.out.2.below.size; have h3 := hlt.out; unfold Hid; omega
      have hs2 : Hid (w1.heap.size < (w1.alloc (.cells #[.string ⟨#[102, 105, 114, 115, 116]⟩, .string ⟨#[108, 97, 115, 116]⟩] 9)).heap.size) := by unfold Hid; rw [sz_alloc]; omega
      have hBl : B ≤ (w1.alloc (.cells #[.string ⟨#[102, 105, 114, 115, 116]⟩, .string ⟨#[108, 97, 115, 116]⟩] 9)).heap.size := Nat.le_trans hBw1 hal.size
      clear hal
      generalize w1.alloc (.cells #[.string ⟨#[102, 105, 114, 115, 116]⟩, .string ⟨#[108, 97, 115, 116]⟩] 9) = wl at *
      go_loopw [2, 57] (fun fs i wr => ∃ j : Nat, j ≤ 2 ∧ i = .int .i64 j ∧ Hid (PInv B wl wr v1 fs (E1 ++ doneI d L q j))) (fun _ i _ => 2 - (intOf i).toNat)
      case atStart => exact ⟨0, Nat.zero_le _, rfl, by have h := HPl.out; unfold Hid; simpa [doneI] using h⟩
      case round =>
        obtain ⟨j, hj, rfl, HJ⟩ := hrel
        by_cases hltj : j < 2
        · have hgj : decide ((j : Int) < 2) = true := decide_eq_true (by omega)
          obtain ⟨hc0, hc1, hc2⟩ := HBl.out.off HJ.out.2 hs1.out hn1.out
          have hcj := two_off HS2.out HJ.out.2 hs2.out hn2.out hltj
          have HED := hid (doneI_succ d L q j)
          have hij : q.size + 1 + (item j).size ≤ q.size + 6 := by have h := item_size q j; rw [ByteArray.size_append, ByteArray.size_append] at h; exact h
          have hiz := hid (item_size q j)
          have HEJ : Hid ((E1 ++ doneI d L q j).length + sumK d L (q.size + 6) ≤ E.length + tot ∧ sumK d L (q.size + 6) ≤ tot) := by
            have h1 := doneI_length d L q j
            have h2 := HT4.out
            have h3 := HE1.out
            have h4 : j * sumK d L (q.size + 6) ≤ 1 * sumK d L (q.size + 6) := Nat.mul_le_mul_right _ (by omega)
            unfold Hid
            rw [List.length_append]
            omega
          generalize hEj : E1 ++ doneI d L q j = Ej at *
          generalize item j = it at *
          have HEj := hid hEj
          clear hEj
          go_wp2
          go_loopw [2, 64] (fun fs i wr => ∃ k : Nat, k ≤ n ∧ i = .int .i64 k ∧ Hid (PInv B wl wr v1 fs (Ej ++ (L.take k).flatMap fun t => pathsF d t (q ++ dot ++ it)))) (fun _ i _ => n - (intOf i).toNat)
          case atStart => exact ⟨0, Nat.zero_le _, rfl, by have h := HJ.out; unfold Hid; simpa using h⟩
          case round =>
            obtain ⟨k, hk, rfl, HI⟩ := hrel
            by_cases hltk : k < n
            · have hkL : k < L.length := by rw [← HN.out]; exact hltk
              obtain ⟨b, o, rfl, hS, x, y, z, hx, hy, hz, hf⟩ := (HKl.out.off HI.out.2) k hkL
              obtain ⟨s2, iv2, a2, n2, c2, rfl, rfl, rfl⟩ := hf.form
              have HCT : Hid ((Ej ++ (L.take k).flatMap fun t => pathsF d t (q ++ dot ++ it)).length + total d L[k] (q ++ dot ++ it).size ≤ 4194304 ∧ total d L[k] (q ++ dot ++ it).size ≤ 1048576) := by
                have h1 := flat_count L (q ++ dot ++ it) (q.size + 6) hiz.out hkL
                have h2 := HEJ.out
                have h3 := HTOT.out
                have h4 := HCNT.out
                unfold Hid
                rw [List.length_append]
                omega
              have HFT := hid (show Ej ++ (L.take (k + 1)).flatMap (fun t => pathsF d t (q ++ dot ++ it)) = (Ej ++ (L.take k).flatMap fun t => pathsF d t (q ++ dot ++ it)) ++ pathsF d L[k] (q ++ dot ++ it) by rw [flat_take L _ hkL, List.append_assoc])
              have hbb := World.block_lt_of_cell? wr _ hx
              have hfA := hid (hf.below ((Below.refl _ wr).alloc (Nat.le_refl _) (.cells #[.string s2, .int .i64 iv2, .slice a2 n2 c2] 38)))
              have hoA := hid (HI.out.1.alloc (.cells #[.string s2, .int .i64 iv2, .slice a2 n2 c2] 38))
              have hBr : Hid (B ≤ (wr.alloc (.cells #[.string s2, .int .i64 iv2, .slice a2 n2 c2] 38)).heap.size) := by have := HI.out.2.below.size; unfold Hid; rw [sz_alloc]; omega
              generalize L[k] = tk at *
              generalize hEk : (Ej ++ (L.take k).flatMap fun t => pathsF d t (q ++ dot ++ it)) = Ek at *
              clear hf hS hkL hEk
              go_wp2_with fail
              refine (ih.out tk _ _ _ (q ++ dot ++ it) _ Ek B _ hfA.out HCT.out.2 HCT.out.1 hoA.out hBr.out).mono ?_
              rintro e w2 ⟨v2, rfl, ho2, hoff2⟩
              have HI2 := hid (HI.out.step hBl ho2 hoff2)
              clear ho2 hoff2 hfA hoA hBr
              go_wp2
              go_roundw
              case rel => exact ⟨k + 1, by omega, by go_num, by rw [HFT.out]; exact HI2.out⟩
              case measure => simp [intOf]; omega
            · have e : k = n := by omega
              have eL : L.take k = L := by rw [e, HN.out]; exact List.take_length
              rw [eL] at HI
              clear eL e
              go_wp2
              go_roundw
              case rel => exact ⟨j + 1, by omega, by go_num, by rw [HED.out, ← List.append_assoc, HEj.out]; exact HI.out⟩
              case measure => simp [intOf]; omega
        · have e : j = 2 := by omega
          rw [e] at HJ
          clear e
          go_wp2
          go_ret
          refine ⟨_, rfl, ?_, ((Off.of_below v hbw.out hB).trans HOFF.out).trans HJ.out.2⟩
          rw [HF4.out, ← doneI_two]
          exact HJ.out.1
    · have HT4 : Hid (tot = 1 + q.size + sumK d L q.size) := by have h := HT.out; rw [if_neg hi4] at h; exact h
      have HF4 : Hid (E ++ PF = E ++ [(q, iv)] ++ L.flatMap fun t => pathsF d t q) := by have h := HF.out; rw [if_neg hi4, if_neg hi0] at h; unfold Hid; rw [h, List.append_assoc]
      clear HT HF
      have hg0 : (iv == 0) = false := beq_false_of_ne hi0
      have hg4 : (iv == 4) = false := beq_false_of_ne hi4
      have hg5 : (iv != 0) = true := by simp [bne, hg0]
      have hg6 : (iv != 4) = true := by simp [bne, hg4]
      go_wp2_with (at_builtin; refine wpList_append_lies _ rfl _ _ 29 rfl B 34 i0 (.agg #[.string ByteArray.empty, .int .i64 0]) 2 24 Try.underlying29 hi hz0 hz1 hz2 rfl (by decide) _ E.length (prs E) rfl (HO.out.alloc _) ⟨wc.heap.size, 0, none⟩ 1 1 [.string q, .int .i64 iv] rfl rfl (pair_new _ _ _ _) (prs_one [(q, iv)]) (by decide) (by unfold maxLen; omega) (by omega) (by have := hbw.out.size; simp; omega) (wc.heap.size + 1) (by simp) ?_)
      intro g cap w1 hown1 hgrow hat hlt1
      have HP := hid (PInv.app HO.out hBc hown1 hgrow hat rfl)
      obtain ⟨hy0, hy1, hy2⟩ := HBX.out.off HP.out.2 hlt.out hnb.out
      clear hown1 hgrow hat hlt1 hx0 hx1 hx2
      have HE1 := hid (show (E ++ [(q, iv)]).length = E.length + 1 by simp)
      generalize E ++ [(q, iv)] = E1 at *
      generalize Value.slice (some ⟨g, 0, none⟩) (E.length + 1) cap = v1 at *
      go_wp2
      go_loopw [2, 45] (fun fs i wr => ∃ k : Nat, k ≤ n ∧ i = .int .i64 k ∧ Hid (PInv B wc wr v fs (E1 ++ (L.take k).flatMap fun t => pathsF d t q))) (fun _ i _ => n - (intOf i).toNat)
      case atStart => exact ⟨0, Nat.zero_le _, rfl, by have h := HP.out; unfold Hid; simpa using h⟩
      case round =>
        obtain ⟨k, hk, rfl, HI⟩ := hrel
        by_cases hltk : k < n
        · have hkL : k < L.length := by rw [← HN.out]; exact hltk
          obtain ⟨b, o, rfl, hS, x, y, z, hx, hy, hz, hf⟩ := (HK.out.off HI.out.2) k hkL
          obtain ⟨s2, iv2, a2, n2, c2, rfl, rfl, rfl⟩ := hf.form
          have HCT : Hid ((E1 ++ (L.take k).flatMap fun t => pathsF d t q).length + total d L[k] q.size ≤ 4194304 ∧ total d L[k] q.size ≤ 1048576) := by
            have h1 := flat_count L q q.size (Nat.le_refl _) hkL
            have h2 := HT4.out
            have h3 := HTOT.out
            have h4 := HCNT.out
            have h5 := HE1.out
            unfold Hid
            rw [List.length_append]
            omega
          have HFT := hid (show E1 ++ (L.take (k + 1)).flatMap (fun t => pathsF d t q) = (E1 ++ (L.take k).flatMap fun t => pathsF d t q) ++ pathsF d L[k] q by rw [flat_take L _ hkL, List.append_assoc])
          have hbb := World.block_lt_of_cell? wr _ hx
          have hfA := hid (hf.below ((Below.refl _ wr).alloc (Nat.le_refl _) (.cells #[.string s2, .int .i64 iv2, .slice a2 n2 c2] 38)))
          have hoA := hid (HI.out.1.alloc (.cells #[.string s2, .int .i64 iv2, .slice a2 n2 c2] 38))
          have hBr : Hid (B ≤ (wr.alloc (.cells #[.string s2, .int .i64 iv2, .slice a2 n2 c2] 38)).heap.size) := by have := HI.out.2.below.size; unfold Hid; rw [sz_alloc]; omega
          generalize L[k] = tk at *
          generalize hEk : (E1 ++ (L.take k).flatMap fun t => pathsF d t q) = Ek at *
          clear hf hS hkL hEk
          go_wp2_with fail
          refine (ih.out tk _ _ _ q _ Ek B _ hfA.out HCT.out.2 HCT.out.1 hoA.out hBr.out).mono ?_
          rintro e w2 ⟨v2, rfl, ho2, hoff2⟩
          have HI2 := hid (HI.out.step hBc ho2 hoff2)
          clear ho2 hoff2 hfA hoA hBr
          go_wp2
          go_roundw
          case rel => exact ⟨k + 1, by omega, by go_num, by rw [HFT.out]; exact HI2.out⟩
          case measure => simp [intOf]; omega
        · have e : k = n := by omega
          have eL : L.take k = L := by rw [e, HN.out]; exact List.take_length
          rw [eL] at HI
          clear eL e
          go_wp2
          go_ret
          refine ⟨_, rfl, ?_, (Off.of_below v hbw.out hB).trans HI.out.2⟩
          rw [HF4.out]
          exact HI.out.1
end Go.Proofs.Qxb6601217a.Tr
