/- Plain mathematics of a list that comes in parts, and how add takes them in turn. -/
import Derived.Test.Qxb6602261aAdd
namespace Go.Proofs.Qxb6602261a.Nm

/-- The sum of the first n lengths; the first n parts one behind the other. -/
def tot (K : Nat → Nat) : Nat → Nat
  | 0 => 0
  | n + 1 => tot K n + K n
def cat (P : Nat → List ByteArray) : Nat → List ByteArray
  | 0 => []
  | n + 1 => cat P n ++ P n

theorem tot_mono (K : Nat → Nat) {i n : Nat} (h : i ≤ n) : tot K i ≤ tot K n := by
  induction n with
  | zero => have : i = 0 := by omega
            subst this; exact Nat.le_refl _
  | succ n ih =>
    by_cases e : i = n + 1
    · subst e; exact Nat.le_refl _
    · have := ih (by omega); show tot K i ≤ tot K n + K n; omega
theorem tot_ge (K : Nat → Nat) {i n : Nat} (h : i < n) : tot K i + K i ≤ tot K n := tot_mono K (i := i + 1) h
theorem cat_length {P : Nat → List ByteArray} {K : Nat → Nat} {n : Nat} (h : ∀ i, i < n → (P i).length = K i) : (cat P n).length = tot K n := by
  induction n with
  | zero => rfl
  | succ n ih => unfold cat tot; rw [List.length_append, ih (fun i hi => h i (by omega)), h n (by omega)]
theorem get_cat {P : Nat → List ByteArray} {K : Nat → Nat} {n : Nat} (h : ∀ i, i < n → (P i).length = K i) {i j : Nat} (hi : i < n) (hj : j < K i) : get (cat P n) (tot K i + j) = get (P i) j := by
  induction n with
  | zero => omega
  | succ n ih =>
    have hl := cat_length (P := P) (K := K) (n := n) (fun i hi => h i (by omega))
    by_cases e : i = n
    · subst e
      unfold cat
      rw [← hl]
      exact get_append_right _ _ _
    · have h1 := tot_ge K (show i < n by omega)
      unfold cat
      rw [get_append_left (by omega)]
      exact ih (fun i hi => h i (by omega)) (by omega)
theorem get_cat_last {P : Nat → List ByteArray} {K : Nat → Nat} {n : Nat} (h : ∀ i, i < n + 1 → (P i).length = K i) (hk : 0 < K n) : get (cat P (n + 1)) (tot K n + K n - 1) = get (P n) (K n - 1) := by
  have := get_cat h (i := n) (j := K n - 1) (by omega) (by omega)
  rw [← this]
  congr 1
  omega

/-- Before part i: nothing has been taken; or all parts so far were, or the list was dropped as too long. -/
def SInv (P : Nat → List ByteArray) (K : Nat → Nat) (most generation : Int) (i : Nat) (gen : Int) (F : List ByteArray) (op : Bool) (after : ByteArray) : Prop :=
  (i = 0 ∧ after.toList.isEmpty = true) ∨
  (∃ m, i = m + 1 ∧ gen = generation ∧ after = get (P m) (K m - 1) ∧ 0 < K m ∧ after.toList.isEmpty = false ∧
    ((op = true ∧ F = cat P i ∧ ¬ most < (tot K i : Int)) ∨ (op = false ∧ most < (tot K i : Int) ∧ F.length ≤ tot K i)))

/-- The switch of add at part i. -/
theorem step_turn {P : Nat → List ByteArray} {K : Nat → Nat} {most generation : Int} {n i : Nat} {gen : Int} {F : List ByteArray} {op : Bool} {after : ByteArray} (hK : ∀ i, i < n → (P i).length = K i) (hi : i < n)
    (h : SInv P K most generation i gen F op after) (v : Value) :
    ∃ open1 F1 r, Turn gen generation F (P i) op after v open1 F1 generation r ∧ (∀ k, r = some k → v.ownBlock = some k) ∧
      ((open1 = true ∧ F1 = cat P (i + 1)) ∨ (open1 = false ∧ most < (tot K (i + 1) : Int) ∧ F1.length ≤ tot K (i + 1))) := by
  have htk : tot K (i + 1) = tot K i + K i := rfl
  rcases h with ⟨rfl, he⟩ | ⟨m, rfl, rfl, rfl, hk, he, h⟩
  · exact ⟨true, P 0, none, .inl ⟨he, rfl, rfl, rfl, rfl⟩, (fun k h => by cases h), .inl ⟨rfl, by simp [cat]⟩⟩
  · rcases h with ⟨rfl, rfl, h⟩ | ⟨rfl, h, hl⟩
    · refine ⟨true, cat P (m + 1) ++ P (m + 1), v.ownBlock, .inr (.inl ⟨he, ⟨rfl, rfl, tot K m + K m - 1, ?_, ?_⟩, rfl, rfl, rfl, rfl⟩), (fun k h => h), .inl ⟨rfl, rfl⟩⟩
      · rw [cat_length (K := K) (fun i hi => hK i (by omega))]
        show tot K m + K m = _
        omega
      · exact get_cat_last (fun i hi => hK i (by omega)) hk
    · exact ⟨false, F, none, .inr (.inr ⟨he, .inl rfl, rfl, rfl, rfl, rfl⟩), (fun k h => by cases h), .inr ⟨rfl, by omega, by omega⟩⟩

/-- The next state, behind a part that is not the last. -/
theorem step_inv {P : Nat → List ByteArray} {K : Nat → Nat} {most generation : Int} {n i : Nat} {open1 : Bool} {F1 : List ByteArray} (hK : ∀ i, i < n → (P i).length = K i) (hi : i < n) (hk : 0 < K i) (hne : (get (P i) (K i - 1)).toList.isEmpty = false)
    (h : (open1 = true ∧ F1 = cat P (i + 1)) ∨ (open1 = false ∧ most < (tot K (i + 1) : Int) ∧ F1.length ≤ tot K (i + 1))) :
    SInv P K most generation (i + 1) generation F1 (opOf open1 true most F1.length) (get (P i) (K i - 1)) := by
  refine .inr ⟨i, rfl, rfl, rfl, hk, hne, ?_⟩
  rcases h with ⟨rfl, rfl⟩ | ⟨rfl, h, hl⟩
  · have hlen := cat_length (P := P) (K := K) (n := i + 1) (fun i hi => hK i (by omega))
    rw [hlen]
    by_cases hb : most < (tot K (i + 1) : Int)
    · exact .inr ⟨by simp [opOf, hb], hb, Nat.le_refl _⟩
    · exact .inl ⟨by simp [opOf, hb], rfl, hb⟩
  · exact .inr ⟨by simp [opOf], h, hl⟩

theorem step_len {P : Nat → List ByteArray} {K : Nat → Nat} {most : Int} {n i : Nat} {open1 : Bool} {F1 : List ByteArray} (hK : ∀ i, i < n → (P i).length = K i) (hi : i < n)
    (h : (open1 = true ∧ F1 = cat P (i + 1)) ∨ (open1 = false ∧ most < (tot K (i + 1) : Int) ∧ F1.length ≤ tot K (i + 1))) : F1.length ≤ tot K n := by
  have hm := tot_mono K (show i + 1 ≤ n from hi)
  rcases h with ⟨rfl, rfl⟩ | ⟨rfl, h, hl⟩
  · rw [cat_length (K := K) (fun i hi => hK i (by omega))]; exact hm
  · omega

/-- What the last part brings. -/
theorem last_ok {P : Nat → List ByteArray} {K : Nat → Nat} {most : Int} {n i : Nat} {open1 : Bool} {F1 : List ByteArray} (hK : ∀ i, i < n → (P i).length = K i) (hi : i + 1 = n)
    (h : (open1 = true ∧ F1 = cat P (i + 1)) ∨ (open1 = false ∧ most < (tot K (i + 1) : Int) ∧ F1.length ≤ tot K (i + 1))) :
    (most < (tot K n : Int) → okOf open1 false most F1.length = false) ∧ (¬ most < (tot K n : Int) → okOf open1 false most F1.length = true ∧ F1 = cat P n) := by
  subst hi
  rcases h with ⟨rfl, rfl⟩ | ⟨rfl, h, hl⟩
  · have hlen := cat_length (P := P) (K := K) (n := i + 1) hK
    rw [hlen]
    exact ⟨fun hb => by simp [okOf, hb], fun hb => ⟨by simp [okOf, hb], rfl⟩⟩
  · exact ⟨fun _ => by simp [okOf], fun hb => absurd h hb⟩

end Go.Proofs.Qxb6602261a.Nm
