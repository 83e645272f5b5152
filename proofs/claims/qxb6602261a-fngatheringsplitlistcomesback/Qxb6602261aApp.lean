/- Laws for append and reslicing on slices of strings of the call's own. -/
import Derived.Test.Qxb6602261aOwn
import Derived.Maps.AppendAt
namespace Go.Proofs.Qxb6602261a.Nm
open Go.RowKit

/-- 'append(v, xs...)' onto a slice of strings of the call's own, whatever the source. -/
theorem run_app (w : World) (ty : TypeId) (B : Nat) (v : Value) (F : List ByteArray) (hown : Own w B v F) (ao : Option Addr) (m c : Nat) (X : List ByteArray) (hX : X.length = m) (hS : StrsAt w ao m (get X))
    (hnone : ao = none → m = 0 ∧ c = 0) (hb : F.length + m ≤ 1099511627776) (hbase : B ≤ w.heap.size) :
    ∃ v' w', (Builtin.append_ #[33, 33] ty #[v, .slice ao m c]).run Try.prog w = .ok v' w' ∧ Own w' B v' (F ++ X) ∧ w.grownBy w' v.ownBlock ∧
      (v' = .slice none 0 0 ↔ v = .slice none 0 0 ∧ m = 0) ∧ (v'.ownBlock = v.ownBlock ∨ v'.ownBlock = some w.heap.size) := by
  obtain ⟨i0, hi, hz0, hz1, hz2⟩ := info_parts info9
  cases ao with
  | none =>
    obtain ⟨rfl, rfl⟩ := hnone rfl
    have hX0 : X = [] := List.eq_nil_of_length_eq_zero hX
    subst hX0
    exact ⟨v, w, run_append_owned_none (P := Try.prog) (w := w) B 33 ty 9 i0 1 Try.underlying33 hi v F.length (F.map Value.string) hown, by simpa using hown, World.grownBy.refl _ _, by simp, .inl rfl⟩
  | some ad =>
    have hnews : ∀ j u, (X.map Value.string)[j]? = some u → w.cell? (ad.add j) = some u := by
      intro j u hu
      have hj : j < X.length := by simpa using (List.getElem?_eq_some_iff.1 hu).1
      obtain ⟨b, o, ha, _, _⟩ := hS.split (by omega)
      obtain rfl := Option.some.inj ha
      exact strs_news hX hS j u hu
    obtain ⟨v', w', h1, h2, h3, h4, h5⟩ := run_append_own_at (P := Try.prog) w B 33 ty 9 i0 (.string ByteArray.empty) 1 16 Try.underlying33 hi hz0 hz1 hz2 rfl (by decide) v F.length (F.map Value.string) hown ad m c (X.map Value.string)
      (by simp [hX]) hnews (strs_oneCell X) (by unfold maxLen; omega) (by omega) hbase
    refine ⟨v', w', h1, ?_, h3, h4, h5⟩
    unfold Own
    simpa [hX] using h2

theorem wp_app {w : World} {o : Oper} {a : Act} {K : Act → World → Prop} {Q : Exit → Act → World → Prop} (s x : Operand)
    (ho : o.op = .call { callee := .builtin .append, args := #[s, x], argTypes := #[33, 33] })
    (B : Nat) (v : Value) (F : List ByteArray) (hs : a.eval s = v) (hown : Own w B v F) (ao : Option Addr) (m c : Nat) (X : List ByteArray) (hx : a.eval x = .slice ao m c) (hX : X.length = m) (hS : StrsAt w ao m (get X))
    (hnone : ao = none → m = 0 ∧ c = 0) (hb : F.length + m ≤ 1099511627776) (hbase : B ≤ w.heap.size)
    (h : ∀ v' w', Own w' B v' (F ++ X) → w.grownBy w' v.ownBlock → (v' = .slice none 0 0 ↔ v = .slice none 0 0 ∧ m = 0) → (v'.ownBlock = v.ownBlock ∨ v'.ownBlock = some w.heap.size) → K (a.put o.dst v') w') : o.wp Try.prog a w K Q := by
  obtain ⟨v', w', hr, h2, h3, h4, h5⟩ := run_app w o.type B v F hown ao m c X hX hS hnone hb hbase
  unfold Oper.wp execOp
  simp only [ho, resolve, invoke, builtin, Sem.run_bind, Sem.run_pure, Result.andThen_ok, List.map_toArray, List.map_cons, List.map_nil, hs, hx, hr]
  exact h v' w' h2 h3 h4 h5

/-- At the list of a plain region's operations. -/
theorem wpList_app {w : World} {ops : Array Oper} {rest : List Oper} {o : Oper} {a : Act} {Q : Exit → Act → World → Prop} (hgd : o.guard = none) (s x : Operand)
    (ho : o.op = .call { callee := .builtin .append, args := #[s, x], argTypes := #[33, 33] })
    (B : Nat) (v : Value) (F : List ByteArray) (hs : a.eval s = v) (hown : Own w B v F) (ao : Option Addr) (m c : Nat) (X : List ByteArray) (hx : a.eval x = .slice ao m c) (hX : X.length = m) (hS : StrsAt w ao m (get X))
    (hnone : ao = none → m = 0 ∧ c = 0) (hb : F.length + m ≤ 1099511627776) (hbase : B ≤ w.heap.size)
    (h : ∀ v' w', Own w' B v' (F ++ X) → w.grownBy w' v.ownBlock → (v' = .slice none 0 0 ↔ v = .slice none 0 0 ∧ m = 0) → (v'.ownBlock = v.ownBlock ∨ v'.ownBlock = some w.heap.size) → wpList Try.prog ops Q rest (a.put o.dst v') w') :
    wpList Try.prog ops Q (o :: rest) a w :=
  wpList_plain hgd fun _ hK => wp_app s x ho B v F hs hown ao m c X hx hX hS hnone hb hbase fun v' w' h2 h3 h4 h5 => hK _ _ (h v' w' h2 h3 h4 h5)

/-- At a step of a region that draws its order. -/
theorem step_app {w : World} {ops : Array Oper} {o : Oper} {a : Act} {K : Act → World → Prop} {Q : Exit → Act → World → Prop} {E : Prop} (hgd : o.guard = none) (s x : Operand)
    (ho : o.op = .call { callee := .builtin .append, args := #[s, x], argTypes := #[33, 33] })
    (B : Nat) (v : Value) (F : List ByteArray) (hs : a.eval s = v) (hown : Own w B v F) (ao : Option Addr) (m c : Nat) (X : List ByteArray) (hx : a.eval x = .slice ao m c) (hX : X.length = m) (hS : StrsAt w ao m (get X))
    (hnone : ao = none → m = 0 ∧ c = 0) (hb : F.length + m ≤ 1099511627776) (hbase : B ≤ w.heap.size)
    (h : ∀ v' w', Own w' B v' (F ++ X) → w.grownBy w' v.ownBlock → (v' = .slice none 0 0 ↔ v = .slice none 0 0 ∧ m = 0) → (v'.ownBlock = v.ownBlock ∨ v'.ownBlock = some w.heap.size) → K (a.put o.dst v') w') :
    if Region.wanted o (yielded ops a.tmps) = true then Oper.wp Try.prog o a w K Q else E := by
  have hw : Region.wanted o (yielded ops a.tmps) = true := by simp [Region.wanted, hgd]
  rw [if_pos hw]
  exact wp_app s x ho B v F hs hown ao m c X hx hX hS hnone hb hbase h

/-- The one string that an append lays in a block of its own first. -/
theorem strsAt_new (w : World) (s : ByteArray) : StrsAt (w.alloc (.cells #[.string s] 9)) (some ⟨w.heap.size, 0, none⟩) 1 (get [s]) := by
  intro i hi
  have : i = 0 := by omega
  subst this
  refine ⟨w.heap.size, 0, rfl, ?_⟩
  have := World.news_of_block (cs := #[.string s]) (t := 9) (fr := (0, 0)) (heap_alloc_new w (.cells #[.string s] 9)) 0 (.string s) rfl
  rw [Addr.add_lit] at this
  exact this

/-- 'xs[1:]' of a slice of strings that is not empty: the value, its address under a name. -/
theorem tail_run (b o m c : Nat) : ∃ a' : Option Addr,
    (∀ W, (Instr.slice 33 (.slice (some ⟨b, o, none⟩) (m + 1) c) (some (.int .i64 1)) none none).run Try.prog W = .ok (.slice a' m (c - 1)) W) ∧
    (∀ w S, StrsAt w (some ⟨b, o, none⟩) (m + 1) S → m + 1 ≤ c → StrsAt w a' m (fun i => S (1 + i))) ∧ (∃ x, a' = some x) := by
  refine ⟨if c = 1 then some ⟨b, o, none⟩ else some ⟨b, o + 1, none⟩, fun W => ?_, ?_, ?_⟩
  · have ht : Try.prog.underlying 33 = some (.slice (Try.prog.elem 33)) := by kernel_rfl
    have hsz : ∀ W, (sizeOf (Try.prog.elem 33)).run Try.prog W = .ok 1 W := by
      intro W
      kernel_rfl
    rw [run_slice_l W 33 _ _ _ ht .i64 1 (by omega) (by omega), hsz]
    by_cases hc : c = 1
    · simp [sliced, Result.andThen, hc]
    · simp [sliced, Result.andThen, hc, Addr.add]
  · intro w S h hmc
    by_cases hc : c = 1
    · have : m = 0 := by omega
      subst this
      exact StrsAt.zero _ _ _
    · rw [if_neg hc]
      intro i hi
      refine ⟨b, o + 1, rfl, ?_⟩
      rw [Nat.add_assoc]
      exact h.cell (by omega)
  · by_cases hc : c = 1
    · exact ⟨_, if_pos hc⟩
    · exact ⟨_, if_neg hc⟩

theorem Own.drew {w : World} {B : Nat} {v : Value} {F : List ByteArray} (h : Own w B v F) : Own w.drew B v F := h
theorem StrsAt.drew1 {w : World} {a : Option Addr} {n : Nat} {S : Nat → ByteArray} (h : StrsAt w a n S) : StrsAt w.drew a n S := h
theorem grown_drew {w w1 : World} {r : Option Nat} (h : w.drew.grownBy w1 r) : w.grownBy w1 r := ⟨h.os, h.tape, h.output, h.size, h.block⟩

/-- Behind an append the two rows still lie apart. -/
theorem apart_left {w wr : World} {v v' u : Value} {B : Nat} {F : List ByteArray} (hu : Own w B u F) (hsz : w.heap.size ≤ wr.heap.size) (ha : v.ownBlock = none ∨ v.ownBlock ≠ u.ownBlock) (hb : v'.ownBlock = v.ownBlock ∨ v'.ownBlock = some wr.heap.size) :
    v'.ownBlock = none ∨ v'.ownBlock ≠ u.ownBlock := by
  rcases hb with hb | hb
  · rw [hb]; exact ha
  · right
    rw [hb]
    intro e
    have := (World.ownsRow.lt hu _ e.symm).2
    omega
theorem apart_swap {u v : Value} (h : v.ownBlock = none ∨ v.ownBlock ≠ u.ownBlock) : u.ownBlock = none ∨ u.ownBlock ≠ v.ownBlock := by
  cases hu : u.ownBlock with
  | none => exact .inl rfl
  | some k =>
    right
    rcases h with h | h
    · rw [h]; simp
    · intro e; exact h (by rw [hu, ← e])

end Go.Proofs.Qxb6602261a.Nm
