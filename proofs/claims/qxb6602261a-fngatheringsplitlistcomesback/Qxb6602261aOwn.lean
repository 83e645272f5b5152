/- A slice of strings that the call itself builds by append; zzb1Missing. -/
import Derived.Test.Qxb6602261aCopies
import Derived.Deep.AppendLies
namespace Go.Proofs.Qxb6602261a.Nm
open Go.RowKit

/-- The value is a slice of the call's own (its block from B on) that holds the strings F. -/
def Own (w : World) (B : Nat) (v : Value) (F : List ByteArray) : Prop := w.ownsRow B 9 1 v F.length (F.map Value.string)

theorem Own.nil (w : World) (B : Nat) : Own w B (.slice none 0 0) [] := World.ownsRow_nil _ _ _ _
theorem Own.mono {w : World} {B B' : Nat} {v : Value} {F : List ByteArray} (h : Own w B v F) (hb : B' ≤ B) : Own w B' v F := by
  refine ⟨h.1, ?_⟩
  rcases h.2 with h2 | ⟨g, cap, cur, hv, hg, r⟩
  · exact .inl h2
  · exact .inr ⟨g, cap, cur, hv, Nat.le_trans hb hg, r⟩
theorem Own.at {w : World} {B : Nat} {v : Value} {F : List ByteArray} (h : Own w B v F) :
    ∃ a cap, v = .slice a F.length cap ∧ StrsAt w a F.length (get F) ∧ (a = none → F = [] ∧ cap = 0) ∧ F.length ≤ cap ∧ ∀ x, a = some x → B ≤ x.block ∧ x.block < w.heap.size := by
  rcases h.2 with ⟨hv, hn⟩ | ⟨g, cap, cur, hv, hb, hh, hnc, hcm, hsz, htk⟩
  · have hF : F = [] := List.eq_nil_of_length_eq_zero hn
    subst hF
    exact ⟨none, 0, by simpa using hv, StrsAt.zero _ _ _, fun _ => ⟨rfl, rfl⟩, Nat.le_refl _, fun x h => by cases h⟩
  · refine ⟨some ⟨g, 0, none⟩, cap, hv, fun i hi => ⟨g, 0, rfl, ?_⟩, (fun h => by cases h), hnc, fun x hx => ?_⟩
    · have := World.ownsRow.cells h (g := g) (by rw [hv]; rfl) i (.string (get F i)) (by rw [get_eq hi]; simp [hi])
      rwa [Addr.add_lit] at this
    · obtain rfl := Option.some.inj hx
      exact ⟨hb, (Array.getElem?_eq_some_iff.1 hh).1⟩
theorem Own.below {w w' : World} {B : Nat} {v : Value} {F : List ByteArray} (h : Own w B v F) (hb : Below w.heap.size w w') : Own w' B v F := by
  refine ⟨h.1, ?_⟩
  rcases h.2 with h2 | ⟨g, cap, cur, hv, hg, hh, r⟩
  · exact .inl h2
  · exact .inr ⟨g, cap, cur, hv, hg, by rw [hb.block g (Array.getElem?_eq_some_iff.1 hh).1]; exact hh, r⟩
theorem Own.alloc {w : World} {B : Nat} {v : Value} {F : List ByteArray} (h : Own w B v F) (o : Obj) : Own (w.alloc o) B v F := World.ownsRow.alloc h o
theorem Own.drewN {w : World} {B : Nat} {v : Value} {F : List ByteArray} (h : Own w B v F) (n : Nat) : Own (w.drewN n) B v F := h
/-- Behind an append to another row. -/
theorem Own.kept {w w' : World} {B : Nat} {v : Value} {F : List ByteArray} {row : Option Nat} (h : Own w B v F) (hg : w.grownBy w' row) (hne : v.ownBlock = none ∨ v.ownBlock ≠ row) : Own w' B v F := World.ownsRow.kept h hg hne

theorem strs_oneCell (F : List ByteArray) : ∀ u ∈ F.map Value.string, u.oneCell' = true := by
  intro u hu
  obtain ⟨_, _, rfl⟩ := List.mem_map.1 hu
  rfl

/-- The cells of a slice of strings, as an append's law asks for them. -/
theorem strs_news {w : World} {b o n : Nat} {F : List ByteArray} (hn : F.length = n) (h : StrsAt w (some ⟨b, o, none⟩) n (get F)) :
    ∀ j u, (F.map Value.string)[j]? = some u → w.cell? ((⟨b, o, none⟩ : Addr).add j) = some u := by
  intro j u hu
  have hj : j < F.length := by
    have := (List.getElem?_eq_some_iff.1 hu).1
    simpa using this
  rw [Addr.add_lit, h.cell (by omega)]
  rw [← hu]
  simp [get, hj]

theorem own_of {w : World} {B : Nat} {v : Value} {n : Nat} {F : List ByteArray} {s : ByteArray} (hn : F.length = n) (h : w.ownsRow B 9 1 v (n + 1) (F.map Value.string ++ [.string s])) : Own w B v (F ++ [s]) := by
  unfold Own
  subst hn
  simpa using h

/-- Below behind an append to a row of the call's own. -/
theorem below_app {B : Nat} {w wr w1 : World} {v : Value} {F : List ByteArray} {o : Obj} (hbel : Below B w wr) (hB : B ≤ w.heap.size) (hown : Own wr B v F) (hg : (wr.alloc o).grownBy w1 v.ownBlock) : Below B w w1 := by
  have hs := hbel.size
  refine (hbel.alloc (by omega) o).grown hg (by simp; omega) fun k hk => ?_
  exact (World.ownsRow.lt hown k hk).1
theorem below_app' {B : Nat} {w wr w1 : World} {v : Value} {F : List ByteArray} (hbel : Below B w wr) (hB : B ≤ w.heap.size) (hown : Own wr B v F) (hg : wr.grownBy w1 v.ownBlock) : Below B w w1 := by
  have hs := hbel.size
  refine hbel.grown hg (by omega) fun k hk => ?_
  exact (World.ownsRow.lt hown k hk).1

set_option maxHeartbeats 1000000 in
/-- zzb1Missing: the names that the ascending list lacks. -/
theorem missing_any (a a' : Option Addr) (n cap n' cap' : Nat) (L L' : List ByteArray) (w : World) (hL : L.length = n) (hL' : L'.length = n') (hA : Asc L') (hS : StrsAt w a n (get L)) (hS' : StrsAt w a' n' (get L'))
    (hn : n ≤ 65536) (hn' : n' ≤ 65536) :
    Calls Try.prog 24 #[.slice a n cap, .slice a' n' cap'] w fun e w' => ∃ v, e = .returned v ∧ Own w' w.heap.size v (L.filter fun x => !has L' x) ∧ Below w.heap.size w w' := by
  have HL : Hid (L.length = n) := hL
  have HL' : Hid (L'.length = n') := hL'
  have HA : Hid (Asc L') := hA
  clear hL hL' hA
  obtain ⟨i0, hi, hz0, hz1, hz2⟩ := info_parts info9
  go_enter Try.func24, Try.ntmps24
  go_wp2
  go_loopw [5, 6] (fun v i wr => ∃ k : Nat, k ≤ n ∧ i = .int .i64 k ∧ Own wr w.heap.size v ((L.take k).filter fun x => !has L' x) ∧ Below w.heap.size w wr) (fun _ i _ => n - (intOf i).toNat)
  case atStart => exact ⟨0, Nat.zero_le _, rfl, by simpa using Own.nil _ _, Below.refl _ _⟩
  case round =>
    obtain ⟨k, hk, rfl, hown, hbel⟩ := hrel
    by_cases hlt : k < n
    · obtain ⟨b, o, rfl, hc⟩ := (hS.below hbel) k hlt
      have HSr : Hid (StrsAt wr a' n' (get L')) := hS'.below hbel
      have hlk : k < L.length := by rw [HL.out]; exact hlt
      have hcl := Nat.le_trans (cnt_le' (fun x => !has L' x) L k) (Nat.le_of_lt hlt)
      unfold cnt at hcl
      cases hh : has L' (get L k)
      · have hF := filter_take_yes (p := fun x => !has L' x) hlk (by simp [hh])
        have HF : Hid _ := hF
        clear hF hlk
        generalize (L.take k).filter (fun x => !has L' x) = F at *
        go_wp2_with fail
        refine (has_any _ _ _ L' _ _ HL'.out HA.out HSr.out hn').mono ?_
        rintro e wr ⟨rfl, rfl⟩
        go_wp2_with (at_builtin; refine wpList_append_lies _ rfl _ _ 33 rfl w.heap.size 9 i0 (.string ByteArray.empty) 1 16 Try.underlying33 hi hz0 hz1 hz2 rfl (by decide) _ F.length (F.map Value.string) rfl (hown.alloc _) ⟨wr.heap.size, 0, none⟩ 1 1 [.string (get L k)] rfl rfl (cell_one_new _ _ _) (strs_oneCell [get L k]) (by decide) (by unfold maxLen; omega) (by omega) (by have := hbel.size; simp; omega) (wr.heap.size + 1) (by simp) ?_)
        intro g cap2 w1 hown1 hgrow hat hlt1
        have hbel1 : Hid (Below w.heap.size w w1) := below_app hbel (Nat.le_refl _) hown hgrow
        have hown2 : Hid (Own w1 w.heap.size (.slice (some ⟨g, 0, none⟩) (F.length + 1) cap2) (F ++ [get L k])) := own_of rfl hown1
        clear hown1 hgrow hat hlt1 hown
        go_wp2
        go_roundw
        case rel => exact ⟨k + 1, by omega, by go_num, by rw [HF.out]; exact hown2.out, hbel1.out⟩
        case measure => simp [intOf]; omega
      · have hF := filter_take_no (p := fun x => !has L' x) hlk (by simp [hh])
        have HF : Hid _ := hF
        clear hF hlk
        generalize (L.take k).filter (fun x => !has L' x) = F at *
        go_wp2_with fail
        refine (has_any _ _ _ L' _ _ HL'.out HA.out HSr.out hn').mono ?_
        rintro e wr ⟨rfl, rfl⟩
        go_wp2
        go_roundw
        case rel => exact ⟨k + 1, by omega, by go_num, by rw [HF.out]; exact hown, hbel⟩
        case measure => simp [intOf]; omega
    · have e : k = n := by omega
      have hF : L.take k = L := by rw [e, ← HL.out]; exact List.take_length
      rw [hF] at hown
      clear hF hS hS'
      go_wp2
      go_ret
      exact ⟨_, rfl, hown, hbel⟩

end Go.Proofs.Qxb6602261a.Nm
