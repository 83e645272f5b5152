/- Plain mathematics of the laws on lists of names: byte order, strictly ascending lists, what a filter leaves. No program in sight. -/
import Derived.Sort.Walk0
import Derived.Lib.Bytealg
import Derived.Lib.Strings
namespace Go.Proofs.Qxb6602261a.Nm

/-! ### Strings and their byte order -/
theorem str_ext {a b : ByteArray} (h : a.toList = b.toList) : a = b := by
  rw [Lib.toList_data, Lib.toList_data] at h
  obtain ⟨⟨la⟩⟩ := a
  obtain ⟨⟨lb⟩⟩ := b
  simp at h
  rw [h]

theorem seq_true {a b : ByteArray} (h : a = b) : (a.toList == b.toList) = true := by simp [h]
theorem seq_false {a b : ByteArray} (h : a ≠ b) : (a.toList == b.toList) = false := by
  rw [beq_eq_false_iff_ne]
  exact fun e => h (str_ext e)
theorem seq_iff {a b : ByteArray} : (a.toList == b.toList) = true ↔ a = b := by
  rw [beq_iff_eq]
  exact ⟨str_ext, fun h => by rw [h]⟩

/-- The one string is ahead of the other in byte order. -/
def Lt (a b : ByteArray) : Prop := Op.bytesLess a.toList b.toList = true

theorem Lt_iff {a b : ByteArray} : Lt a b ↔ a.toList < b.toList := by
  unfold Lt
  rw [bytesLess_eq, decide_eq_true_iff]

theorem Lt.irrefl (a : ByteArray) : ¬ Lt a a := by
  rw [Lt_iff]; exact List.lt_irrefl _
theorem Lt.trans {a b c : ByteArray} (h : Lt a b) (k : Lt b c) : Lt a c := by
  rw [Lt_iff] at *; exact List.lt_trans h k
theorem Lt.asymm {a b : ByteArray} (h : Lt a b) : ¬ Lt b a := fun k => Lt.irrefl a (h.trans k)
theorem Lt.ne {a b : ByteArray} (h : Lt a b) : a ≠ b := fun e => Lt.irrefl b (e ▸ h)
theorem Lt.tri {a b : ByteArray} (h : a ≠ b) (k : ¬ Lt a b) : Lt b a := by
  rw [Lt_iff] at *
  have h1 : b.toList ≤ a.toList := List.not_lt.1 k
  by_cases h2 : b.toList < a.toList
  · exact h2
  · exact absurd (str_ext (List.le_antisymm (List.not_lt.1 h2) h1)) h
theorem Lt.bool_false {a b : ByteArray} (h : ¬ Lt a b) : Op.bytesLess a.toList b.toList = false := by
  unfold Lt at h
  simpa using h

theorem cmp_neg : ∀ {a b : List UInt8}, a < b → Lib.compareBytes a b = -1
  | [], [], h => absurd h (List.lt_irrefl _)
  | [], _ :: _, _ => rfl
  | _ :: _, [], h => absurd h (by simp)
  | a :: x, b :: y, h => by
    rw [List.cons_lt_cons_iff] at h
    unfold Lib.compareBytes
    rcases h with h | ⟨h, k⟩
    · rw [if_pos h]
    · subst h
      have : ¬ a < a := by exact UInt8.lt_irrefl a
      rw [if_neg this, if_neg this]
      exact cmp_neg k
theorem cmp_pos : ∀ {a b : List UInt8}, b < a → Lib.compareBytes a b = 1
  | [], [], h => absurd h (List.lt_irrefl _)
  | _ :: _, [], _ => rfl
  | [], _ :: _, h => absurd h (by simp)
  | a :: x, b :: y, h => by
    rw [List.cons_lt_cons_iff] at h
    unfold Lib.compareBytes
    rcases h with h | ⟨h, k⟩
    · have : ¬ a < b := by intro k; exact UInt8.lt_irrefl a (UInt8.lt_trans k h)
      rw [if_neg this, if_pos h]
    · subst h
      have : ¬ b < b := by exact UInt8.lt_irrefl b
      rw [if_neg this, if_neg this]
      exact cmp_pos k
theorem cmp_zero : ∀ (a : List UInt8), Lib.compareBytes a a = 0
  | [] => rfl
  | a :: x => by
    unfold Lib.compareBytes
    have : ¬ a < a := by exact UInt8.lt_irrefl a
    rw [if_neg this, if_neg this]
    exact cmp_zero x

/-! ### Lists -/
/-- The element at an index (the empty string beyond the end). -/
def get (L : List ByteArray) (i : Nat) : ByteArray := L.getD i ByteArray.empty

theorem get_eq {L : List ByteArray} {i : Nat} (h : i < L.length) : get L i = L[i] := by simp [get, h]
theorem get_mem {L : List ByteArray} {i : Nat} (h : i < L.length) : get L i ∈ L := by rw [get_eq h]; exact List.getElem_mem h
theorem take_get {L : List ByteArray} {i : Nat} (h : i < L.length) : L.take (i + 1) = L.take i ++ [get L i] := by
  rw [get_eq h, List.take_succ_eq_append_getElem h]
theorem drop_get {L : List ByteArray} {i : Nat} (h : i < L.length) : L.drop i = get L i :: L.drop (i + 1) := by
  rw [get_eq h, List.drop_eq_getElem_cons h]
theorem get_ext {A B : List ByteArray} (hl : A.length = B.length) (h : ∀ i, i < A.length → get A i = get B i) : A = B := by
  apply List.ext_getElem hl
  intro i h1 h2
  have := h i h1
  rwa [get_eq h1, get_eq h2] at this
theorem get_append_left {A B : List ByteArray} {i : Nat} (h : i < A.length) : get (A ++ B) i = get A i := by
  rw [get_eq h, get_eq (by simp; omega), List.getElem_append_left h]
theorem get_append_right (A B : List ByteArray) (i : Nat) : get (A ++ B) (A.length + i) = get B i := by
  simp [get, List.getElem?_append_right]
theorem get_drop (A : List ByteArray) (i j : Nat) : get (A.drop i) j = get A (i + j) := by
  simp [get]

/-- Is the name in the list? -/
def has (L : List ByteArray) (x : ByteArray) : Bool := L.any (fun y => y.toList == x.toList)
theorem has_iff {L : List ByteArray} {x : ByteArray} : has L x = true ↔ x ∈ L := by
  unfold has
  rw [List.any_eq_true]
  constructor
  · rintro ⟨y, hy, e⟩
    rw [seq_iff] at e
    exact e ▸ hy
  · intro h
    exact ⟨x, h, seq_true rfl⟩
theorem has_false {L : List ByteArray} {x : ByteArray} (h : x ∉ L) : has L x = false := by
  cases e : has L x
  · rfl
  · exact absurd (has_iff.1 e) h

/-- Strictly ascending. -/
def Asc (L : List ByteArray) : Prop := L.Pairwise Lt

theorem Asc.get {L : List ByteArray} (h : Asc L) {i j : Nat} (hij : i < j) (hj : j < L.length) : Lt (Nm.get L i) (Nm.get L j) := by
  rw [get_eq hj, get_eq (Nat.lt_trans hij hj)]
  exact List.pairwise_iff_getElem.1 h i j (Nat.lt_trans hij hj) hj hij

/-- Each neighbour's pair ascends: so the whole list does. -/
theorem asc_of_steps {L : List ByteArray} (h : ∀ i, i + 1 < L.length → Lt (get L i) (get L (i + 1))) : Asc L := by
  refine List.pairwise_iff_getElem.2 fun i j hi hj hij => ?_
  rw [← get_eq hi, ← get_eq hj]
  induction j with
  | zero => omega
  | succ j ih =>
    by_cases e : i = j
    · subst e; exact h i hj
    · exact (ih (by omega) (by omega)).trans (h j hj)

theorem Asc.filter {L : List ByteArray} (h : Asc L) (p : ByteArray → Bool) : Asc (L.filter p) := List.Pairwise.filter p h
theorem Asc.take_drop {L : List ByteArray} (h : Asc L) (i : Nat) : ∀ x ∈ L.take i, ∀ y ∈ L.drop i, Lt x y := by
  have h' : (L.take i ++ L.drop i).Pairwise Lt := by rw [List.take_append_drop]; exact h
  exact (List.pairwise_append.1 h').2.2
theorem Asc.drop_head {L : List ByteArray} (h : Asc L) {i : Nat} (hi : i < L.length) : ∀ y ∈ L.drop (i + 1), Lt (Nm.get L i) y := by
  have h' : (L.drop i).Pairwise Lt := h.sublist (List.drop_sublist i L)
  rw [drop_get hi, List.pairwise_cons] at h'
  exact h'.1
theorem Asc.take_last {L : List ByteArray} (h : Asc L) {i : Nat} (hi : i < L.length) : ∀ x ∈ L.take i, Lt x (Nm.get L i) := by
  intro x hx
  refine h.take_drop i x hx _ ?_
  rw [drop_get hi]
  exact List.mem_cons_self

/-- Two strictly ascending lists of the same names are one. -/
theorem asc_ext : ∀ {A B : List ByteArray}, Asc A → Asc B → (∀ x, x ∈ A ↔ x ∈ B) → A = B
  | [], [], _, _, _ => rfl
  | [], b :: B, _, _, h => absurd ((h b).2 List.mem_cons_self) (by simp)
  | a :: A, [], _, _, h => absurd ((h a).1 List.mem_cons_self) (by simp)
  | a :: A, b :: B, hA, hB, h => by
    have hA' := List.pairwise_cons.1 hA
    have hB' := List.pairwise_cons.1 hB
    have e : a = b := by
      have h1 := (h a).1 List.mem_cons_self
      have h2 := (h b).2 List.mem_cons_self
      rcases List.mem_cons.1 h1 with h1 | h1
      · exact h1
      · rcases List.mem_cons.1 h2 with h2 | h2
        · exact h2.symm
        · exact absurd (hB'.1 a h1) (hA'.1 b h2).asymm
    subst e
    congr 1
    refine asc_ext hA'.2 hB'.2 fun x => ⟨fun hx => ?_, fun hx => ?_⟩
    · rcases List.mem_cons.1 ((h x).1 (List.mem_cons_of_mem _ hx)) with e | k
      · exact absurd (e ▸ hA'.1 x hx) (Lt.irrefl _)
      · exact k
    · rcases List.mem_cons.1 ((h x).2 (List.mem_cons_of_mem _ hx)) with e | k
      · exact absurd (e ▸ hB'.1 x hx) (Lt.irrefl _)
      · exact k

/-! ### What a filter leaves, name by name -/
/-- How many of the first n names pass. -/
def cnt (p : ByteArray → Bool) (T : List ByteArray) (n : Nat) : Nat := ((T.take n).filter p).length

theorem cnt_zero (p : ByteArray → Bool) (T : List ByteArray) : cnt p T 0 = 0 := by simp [cnt]
theorem filter_take_yes {p : ByteArray → Bool} {T : List ByteArray} {n : Nat} (h : n < T.length) (hp : p (get T n) = true) : (T.take (n + 1)).filter p = (T.take n).filter p ++ [get T n] := by
  rw [take_get h, List.filter_append]; simp [hp]
theorem filter_take_no {p : ByteArray → Bool} {T : List ByteArray} {n : Nat} (h : n < T.length) (hp : p (get T n) = false) : (T.take (n + 1)).filter p = (T.take n).filter p := by
  rw [take_get h, List.filter_append]; simp [hp]
theorem cnt_yes {p : ByteArray → Bool} {T : List ByteArray} {n : Nat} (h : n < T.length) (hp : p (get T n) = true) : cnt p T (n + 1) = cnt p T n + 1 := by
  unfold cnt; rw [filter_take_yes h hp]; simp
theorem cnt_no {p : ByteArray → Bool} {T : List ByteArray} {n : Nat} (h : n < T.length) (hp : p (get T n) = false) : cnt p T (n + 1) = cnt p T n := by
  unfold cnt; rw [filter_take_no h hp]
theorem cnt_all (p : ByteArray → Bool) (T : List ByteArray) : cnt p T T.length = (T.filter p).length := by simp [cnt]
theorem cnt_le (p : ByteArray → Bool) (T : List ByteArray) (n : Nat) : cnt p T n ≤ (T.filter p).length := by
  unfold cnt
  exact (List.Sublist.filter p (List.take_sublist n T)).length_le
theorem cnt_le' (p : ByteArray → Bool) (T : List ByteArray) (n : Nat) : cnt p T n ≤ n := by
  unfold cnt
  exact Nat.le_trans (List.length_filter_le _ _) (List.length_take_le _ _)

theorem filter_split {p : ByteArray → Bool} {T : List ByteArray} {n : Nat} (h : n < T.length) :
    T.filter p = (T.take n).filter p ++ (get T n :: T.drop (n + 1)).filter p := by
  rw [← drop_get h, ← List.filter_append, List.take_append_drop]

/-- The name passes: it is the next of those that pass. -/
theorem next_yes {p : ByteArray → Bool} {T : List ByteArray} {n : Nat} (h : n < T.length) (hp : p (get T n) = true) :
    cnt p T n < (T.filter p).length ∧ get (T.filter p) (cnt p T n) = get T n := by
  have hs := filter_split (p := p) h
  rw [List.filter_cons_of_pos hp] at hs
  refine ⟨by rw [hs]; simp [cnt], ?_⟩
  rw [hs]
  have := get_append_right ((T.take n).filter p) (get T n :: (T.drop (n + 1)).filter p) 0
  exact this
/-- It does not: the next of those that pass is behind it. -/
theorem next_no {p : ByteArray → Bool} {T : List ByteArray} (hT : Asc T) {n : Nat} (h : n < T.length) (hp : p (get T n) = false) (hc : cnt p T n < (T.filter p).length) :
    Lt (get T n) (get (T.filter p) (cnt p T n)) := by
  have hs := filter_split (p := p) h
  rw [List.filter_cons_of_neg (by simp [hp])] at hs
  have e : get (T.filter p) (cnt p T n) = get ((T.drop (n + 1)).filter p) 0 := by
    rw [hs]
    exact get_append_right ((T.take n).filter p) ((T.drop (n + 1)).filter p) 0
  rw [e]
  have hl : 0 < ((T.drop (n + 1)).filter p).length := by
    rw [hs] at hc
    simp [cnt] at hc ⊢
    exact hc
  exact hT.drop_head h _ (List.mem_filter.1 (get_mem hl)).1

/-! ### Two ascending lists, apart -/
structure NA (W I : List ByteArray) (i j : Nat) (G C : List ByteArray) : Prop where
  hi : i ≤ W.length
  hj : j ≤ I.length
  g : G = (W.take i).filter (fun x => !has I x)
  c : C = (I.take j).filter (fun x => !has W x)
  wi : ∀ x ∈ W.take i, ∀ y ∈ I.drop j, Lt x y
  iw : ∀ y ∈ I.take j, ∀ x ∈ W.drop i, Lt y x

theorem NA.start (W I : List ByteArray) : NA W I 0 0 [] [] := ⟨Nat.zero_le _, Nat.zero_le _, by simp, by simp, by simp, by simp⟩
theorem NA.swap {W I : List ByteArray} {i j : Nat} {G C : List ByteArray} (h : NA W I i j G C) : NA I W j i C G := ⟨h.hj, h.hi, h.c, h.g, h.iw, h.wi⟩
theorem NA.lss {W I : List ByteArray} (hI : Asc I) {i j : Nat} {G C : List ByteArray} (h : NA W I i j G C) (hi : i < W.length) (hj : j < I.length) (hl : Lt (get W i) (get I j)) :
    NA W I (i + 1) j (G ++ [get W i]) C := by
  have hnot : get W i ∉ I := by
    intro hm
    rw [← List.take_append_drop j I, List.mem_append] at hm
    rcases hm with hm | hm
    · exact Lt.irrefl _ (h.iw _ hm _ (by rw [drop_get hi]; exact List.mem_cons_self))
    · rw [drop_get hj] at hm
      rcases List.mem_cons.1 hm with e | hm
      · exact Lt.irrefl _ (e ▸ hl)
      · exact (hl.trans (hI.drop_head hj _ hm)) |> Lt.irrefl _
  refine ⟨hi, h.hj, ?_, h.c, ?_, ?_⟩
  · rw [filter_take_yes hi (by simp [has_false hnot]), h.g]
  · intro x hx y hy
    rw [take_get hi, List.mem_append] at hx
    rcases hx with hx | hx
    · exact h.wi x hx y hy
    · rw [List.mem_singleton] at hx
      subst hx
      rw [drop_get hj] at hy
      rcases List.mem_cons.1 hy with e | hy
      · exact e ▸ hl
      · exact hl.trans (hI.drop_head hj _ hy)
  · intro y hy x hx
    exact h.iw y hy x (by rw [drop_get hi]; exact List.mem_cons_of_mem _ hx)
theorem NA.eq {W I : List ByteArray} (hW : Asc W) (hI : Asc I) {i j : Nat} {G C : List ByteArray} (h : NA W I i j G C) (hi : i < W.length) (hj : j < I.length) (he : get W i = get I j) :
    NA W I (i + 1) (j + 1) G C := by
  have h1 : get W i ∈ I := he ▸ get_mem hj
  have h2 : get I j ∈ W := he ▸ get_mem hi
  refine ⟨hi, hj, ?_, ?_, ?_, ?_⟩
  · rw [filter_take_no hi (by simp [has_iff.2 h1]), h.g]
  · rw [filter_take_no hj (by simp [has_iff.2 h2]), h.c]
  · intro x hx y hy
    rw [take_get hi, List.mem_append] at hx
    rcases hx with hx | hx
    · exact h.wi x hx y (by rw [drop_get hj]; exact List.mem_cons_of_mem _ hy)
    · rw [List.mem_singleton] at hx
      subst hx
      rw [he]
      exact hI.drop_head hj _ hy
  · intro y hy x hx
    rw [take_get hj, List.mem_append] at hy
    rcases hy with hy | hy
    · exact h.iw y hy x (by rw [drop_get hi]; exact List.mem_cons_of_mem _ hx)
    · rw [List.mem_singleton] at hy
      subst hy
      rw [← he]
      exact hW.drop_head hi _ hx
/-- At the end: what is left of the one list is not in the other. -/
theorem NA.done {W I : List ByteArray} {i j : Nat} {G C : List ByteArray} (h : NA W I i j G C) (hd : i = W.length ∨ j = I.length) :
    G ++ W.drop i = W.filter (fun x => !has I x) := by
  rw [h.g]
  have e : W.filter (fun x => !has I x) = (W.take i).filter (fun x => !has I x) ++ (W.drop i).filter (fun x => !has I x) := by
    rw [← List.filter_append, List.take_append_drop]
  rw [e]
  congr 1
  rcases hd with hd | hd
  · subst hd; simp
  · refine (List.filter_eq_self.2 fun x hx => ?_).symm
    have : x ∉ I := by
      intro hm
      have hm' : x ∈ I.take j := by rw [hd]; simpa using hm
      exact Lt.irrefl _ (h.iw x hm' x hx)
    simp [has_false this]

/-- What the two lists share, kept in the order of the one and of the other. -/
theorem shared {W I : List ByteArray} (hW : Asc W) (hI : Asc I) : W.filter (fun x => has I x) = I.filter (fun x => has W x) := by
  refine asc_ext (hW.filter _) (hI.filter _) fun x => ?_
  simp only [List.mem_filter, has_iff]
  exact ⟨fun h => ⟨h.2, h.1⟩, fun h => ⟨h.2, h.1⟩⟩

end Go.Proofs.Qxb6602261a.Nm
