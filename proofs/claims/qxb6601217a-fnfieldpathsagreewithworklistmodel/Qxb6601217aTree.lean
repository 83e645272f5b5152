/- Trees of named fields: what the program reckons of them, and how they lie in memory. A tree of depth below d is a nested pair. -/
import Derived.Test.Qxb6601217aProg
import Derived.WalkKit
import Derived.WalkSpells
namespace Go.Proofs.Qxb6601217a.Tr
open Go.RowKit

/-- The trees of depth below d: a name, a value, the fields. -/
def T : Nat → Type
  | 0 => Empty
  | d + 1 => ByteArray × Int × List (T d)
def nm {d : Nat} (t : T (d + 1)) : ByteArray := Prod.fst (show ByteArray × Int × List (T d) from t)
def vl {d : Nat} (t : T (d + 1)) : Int := Prod.fst (Prod.snd (show ByteArray × Int × List (T d) from t))
def ks {d : Nat} (t : T (d + 1)) : List (T d) := Prod.snd (Prod.snd (show ByteArray × Int × List (T d) from t))
def mk {d : Nat} (s : ByteArray) (v : Int) (L : List (T d)) : T (d + 1) := (show ByteArray × Int × List (T d) from (s, v, L))
theorem nm_mk {d : Nat} (s : ByteArray) (v : Int) (L : List (T d)) : nm (mk s v L) = s := rfl
theorem vl_mk {d : Nat} (s : ByteArray) (v : Int) (L : List (T d)) : vl (mk s v L) = v := rfl
theorem ks_mk {d : Nat} (s : ByteArray) (v : Int) (L : List (T d)) : ks (mk s v L) = L := rfl

/-! ### What is reckoned -/
def joinL (p : Nat) (s : ByteArray) : Nat := if p = 0 then s.size else if s.size = 0 then p else p + 1 + s.size
def dot : ByteArray := ⟨#[46]⟩
def first : ByteArray := ⟨#[102, 105, 114, 115, 116]⟩
def last : ByteArray := ⟨#[108, 97, 115, 116]⟩
def join (p s : ByteArray) : ByteArray := if p = ByteArray.empty then s else if s = ByteArray.empty then p else p ++ dot ++ s

/-- What faultsUnfoldCost adds. -/
def total : (d : Nat) → T d → Nat → Nat
  | 0, t, _ => Empty.elim t
  | d + 1, t, p => 1 + joinL p (nm t) + (if vl t = 4 then ((ks t).map fun k => total d k (joinL p (nm t) + 6)).sum + ((ks t).map fun k => total d k (joinL p (nm t) + 6)).sum else ((ks t).map fun k => total d k (joinL p (nm t))).sum)

def sumK (d : Nat) (L : List (T d)) (q : Nat) : Nat := (L.map fun k => total d k q).sum
theorem total_eq (d : Nat) (t : T (d + 1)) (p : Nat) : total (d + 1) t p = 1 + joinL p (nm t) + (if vl t = 4 then sumK d (ks t) (joinL p (nm t) + 6) + sumK d (ks t) (joinL p (nm t) + 6) else sumK d (ks t) (joinL p (nm t))) := rfl
theorem sumK_zero (d : Nat) (L : List (T d)) (q : Nat) : sumK d (L.take 0) q = 0 := rfl

/-- The paths and their values, in order. -/
def pathsF : (d : Nat) → T d → ByteArray → List (ByteArray × Int)
  | 0, t, _ => Empty.elim t
  | d + 1, t, p => (if vl t = 0 then [] else [(join p (nm t), vl t)]) ++
      (if vl t = 4 then ((ks t).flatMap fun k => pathsF d k (join p (nm t) ++ dot ++ first)) ++ ((ks t).flatMap fun k => pathsF d k (join p (nm t) ++ dot ++ last))
       else (ks t).flatMap fun k => pathsF d k (join p (nm t)))

theorem size_zero {s : ByteArray} : s.size = 0 ↔ s = ByteArray.empty := by
  constructor
  · intro h
    apply ByteArray.ext
    exact Array.eq_empty_of_size_eq_zero h
  · rintro rfl
    rfl
theorem join_size (p s : ByteArray) : (join p s).size = joinL p.size s := by
  unfold join joinL
  by_cases hp : p = ByteArray.empty
  · rw [if_pos hp, if_pos (size_zero.2 hp)]
  · rw [if_neg hp, if_neg (fun h => hp (size_zero.1 h))]
    by_cases hs : s = ByteArray.empty
    · rw [if_pos hs, if_pos (size_zero.2 hs)]
    · rw [if_neg hs, if_neg (fun h => hs (size_zero.1 h))]
      rw [ByteArray.size_append, ByteArray.size_append]
      rfl
theorem first_size (q : ByteArray) : (q ++ dot ++ first).size = q.size + 6 := by
  rw [ByteArray.size_append, ByteArray.size_append]; rfl
theorem last_size (q : ByteArray) : (q ++ dot ++ last).size = q.size + 5 := by
  rw [ByteArray.size_append, ByteArray.size_append]; rfl
theorem first_eq (q : ByteArray) : q ++ (⟨#[46, 102, 105, 114, 115, 116]⟩ : ByteArray) = q ++ dot ++ first := by
  apply ByteArray.ext
  simp [ByteArray.data_append, dot, first]
theorem last_eq (q : ByteArray) : q ++ (⟨#[46, 108, 97, 115, 116]⟩ : ByteArray) = q ++ dot ++ last := by
  apply ByteArray.ext
  simp [ByteArray.data_append, dot, last]
theorem joinL_mono {p p' : Nat} (s : ByteArray) (h : p ≤ p') : joinL p s ≤ joinL p' s := by
  unfold joinL
  split <;> split <;> (try split) <;> omega
theorem joinL_ge (p : Nat) (s : ByteArray) : p ≤ joinL p s := by
  unfold joinL
  split <;> (try split) <;> omega

theorem sum_mono {α : Type} (L : List α) (f g : α → Nat) (h : ∀ x ∈ L, f x ≤ g x) : (L.map f).sum ≤ (L.map g).sum := by
  induction L with
  | nil => exact Nat.le_refl _
  | cons x L ih =>
    have h1 := h x (by simp)
    have h2 := ih fun y hy => h y (by simp [hy])
    simp only [List.map_cons, List.sum_cons]
    omega
theorem total_mono : ∀ (d : Nat) (t : T d) {p p' : Nat}, p ≤ p' → total d t p ≤ total d t p'
  | 0, t, _, _, _ => Empty.elim t
  | d + 1, t, p, p', h => by
    have hj := joinL_mono (nm t) h
    have h6 := sum_mono (ks t) (fun k => total d k (joinL p (nm t) + 6)) (fun k => total d k (joinL p' (nm t) + 6)) fun k _ => total_mono d k (by omega)
    have h0 := sum_mono (ks t) (fun k => total d k (joinL p (nm t))) (fun k => total d k (joinL p' (nm t))) fun k _ => total_mono d k hj
    unfold total
    split <;> omega
theorem total_pos : ∀ (d : Nat) (t : T d) (p : Nat), p < total d t p
  | 0, t, _ => Empty.elim t
  | d + 1, t, p => by
    have := joinL_ge p (nm t)
    unfold total
    omega

/-- The running sums of a loop. -/
theorem sum_take {α : Type} (L : List α) (f : α → Nat) {i : Nat} (hi : i < L.length) : ((L.take (i + 1)).map f).sum = ((L.take i).map f).sum + f L[i] := by
  rw [List.take_succ_eq_append_getElem hi, List.map_append, List.sum_append]
  simp only [List.map_cons, List.map_nil, List.sum_cons, List.sum_nil, Nat.add_zero]
theorem sum_take_le {α : Type} (L : List α) (f : α → Nat) (i : Nat) : ((L.take i).map f).sum ≤ (L.map f).sum := by
  have e : (L.map f).sum = ((L.take i ++ L.drop i).map f).sum := by rw [List.take_append_drop]
  rw [e, List.map_append, List.sum_append]
  omega
theorem sumK_take {d : Nat} (L : List (T d)) (q : Nat) {i : Nat} (hi : i < L.length) : sumK d (L.take (i + 1)) q = sumK d (L.take i) q + total d L[i] q := sum_take L _ hi
theorem sumK_take_le {d : Nat} (L : List (T d)) (q i : Nat) : sumK d (L.take i) q ≤ sumK d L q := sum_take_le L _ i
theorem flat_take {α β : Type} (L : List α) (f : α → List β) {i : Nat} (hi : i < L.length) : (L.take (i + 1)).flatMap f = (L.take i).flatMap f ++ f L[i] := by
  rw [List.take_succ_eq_append_getElem hi, List.flatMap_append]
  simp only [List.flatMap_cons, List.flatMap_nil, List.append_nil]
theorem mem_le_sum {α : Type} (L : List α) (f : α → Nat) {x : α} (hx : x ∈ L) : f x ≤ (L.map f).sum := by
  induction L with
  | nil => cases hx
  | cons y L ih =>
    simp only [List.map_cons, List.sum_cons]
    rcases List.mem_cons.1 hx with rfl | h
    · omega
    · have := ih h; omega
theorem flat_length {α β : Type} (L : List α) (f : α → List β) (g : α → Nat) (h : ∀ x ∈ L, (f x).length ≤ g x) : (L.flatMap f).length ≤ (L.map g).sum := by
  induction L with
  | nil => exact Nat.le_refl _
  | cons y L ih =>
    have h1 := h y (by simp)
    have h2 := ih fun z hz => h z (by simp [hz])
    simp only [List.flatMap_cons, List.length_append, List.map_cons, List.sum_cons]
    omega
theorem paths_length : ∀ (d : Nat) (t : T d) (p : ByteArray), (pathsF d t p).length ≤ total d t p.size
  | 0, t, _ => Empty.elim t
  | d + 1, t, p => by
    have e := join_size p (nm t)
    have h1 := flat_length (ks t) (fun k => pathsF d k (join p (nm t) ++ dot ++ first)) (fun k => total d k (joinL p.size (nm t) + 6)) fun k _ => by
      have := paths_length d k (join p (nm t) ++ dot ++ first); rwa [first_size, e] at this
    have h2 := flat_length (ks t) (fun k => pathsF d k (join p (nm t) ++ dot ++ last)) (fun k => total d k (joinL p.size (nm t) + 6)) fun k _ => by
      have h := paths_length d k (join p (nm t) ++ dot ++ last)
      rw [last_size, e] at h
      exact Nat.le_trans h (total_mono d k (by omega))
    have h3 := flat_length (ks t) (fun k => pathsF d k (join p (nm t))) (fun k => total d k (joinL p.size (nm t))) fun k _ => by
      have := paths_length d k (join p (nm t)); rwa [e] at this
    unfold pathsF total
    by_cases h4 : vl t = 4
    · rw [if_pos h4, if_pos h4, if_neg (by omega)]
      simp only [List.length_append, List.length_cons, List.length_nil]
      omega
    · rw [if_neg h4, if_neg h4]
      simp only [List.length_append]
      split <;> simp only [List.length_cons, List.length_nil] <;> omega

/-! ### How a tree lies in memory -/
/-- The three cells hold the tree; the blocks of its rows are in S. -/
def Fits (S : Nat → Prop) (w : World) : (d : Nat) → T d → Value → Value → Value → Prop
  | 0, t, _, _, _ => Empty.elim t
  | d + 1, t, x, y, z => x = .string (nm t) ∧ (nm t).size ≤ maxLen ∧ y = .int .i64 (vl t) ∧
      ∃ a c, z = .slice a (ks t).length c ∧ (a = none → (ks t).length = 0 ∧ c = 0) ∧ (ks t).length ≤ maxLen ∧
        ∀ i, (hi : i < (ks t).length) → ∃ b o, a = some ⟨b, o, none⟩ ∧ S b ∧ ∃ x y z, w.cell? ⟨b, o + i * 3, none⟩ = some x ∧ w.cell? ⟨b, o + i * 3 + 1, none⟩ = some y ∧ w.cell? ⟨b, o + i * 3 + 2, none⟩ = some z ∧ Fits S w d (ks t)[i] x y z

theorem Fits.move {S S' : Nat → Prop} {w w' : World} : ∀ {d : Nat} {t : T d} {x y z : Value}, Fits S w d t x y z → (∀ b, S b → b < w.heap.size → S' b ∧ w'.heap[b]? = w.heap[b]?) → Fits S' w' d t x y z
  | 0, t, _, _, _, _, _ => Empty.elim t
  | d + 1, t, x, y, z, h, hw => by
    obtain ⟨h1, h2, h3, a, c, h4, h5, h6, h7⟩ := h
    refine ⟨h1, h2, h3, a, c, h4, h5, h6, fun i hi => ?_⟩
    obtain ⟨b, o, ha, hs, x, y, z, hx, hy, hz, hf⟩ := h7 i hi
    obtain ⟨hs', hk⟩ := hw b hs (World.block_lt_of_cell? w _ hx)
    refine ⟨b, o, ha, hs', x, y, z, ?_, ?_, ?_, Fits.move hf hw⟩
    · rw [← hx]; simp only [World.cell?, hk]
    · rw [← hy]; simp only [World.cell?, hk]
    · rw [← hz]; simp only [World.cell?, hk]
theorem Fits.below {S : Nat → Prop} {w w' : World} {d : Nat} {t : T d} {x y z : Value} (h : Fits S w d t x y z) (hb : Below w.heap.size w w') : Fits S w' d t x y z :=
  h.move fun b hs hl => ⟨hs, hb.block b hl⟩
end Go.Proofs.Qxb6601217a.Tr
