/- The worklist of faultsModelPaths: what it holds, and how it lies in memory. -/
import Derived.Test.Qxb6601217aPaths
import Derived.WalkSmall
namespace Go.Proofs.Qxb6601217a.Tr
open Go.RowKit

/-- An entry: a tree, the string ahead of it, its three cells. -/
def Ent : Type := (d : Nat) × (T d × ByteArray × Value × Value × Value)
def ent (d : Nat) (t : T d) (p : ByteArray) (x y z : Value) : Ent := ⟨d, t, p, x, y, z⟩
def wgt (e : Ent) : Nat := total e.1 e.2.1 e.2.2.1.size
def ows (e : Ent) : List (ByteArray × Int) := pathsF e.1 e.2.1 e.2.2.1
def cls (e : Ent) : List Value := [e.2.2.2.1, e.2.2.2.2.1, e.2.2.2.2.2, .string e.2.2.1]
def fts (S : Nat → Prop) (w : World) (e : Ent) : Prop := Fits S w e.1 e.2.1 e.2.2.2.1 e.2.2.2.2.1 e.2.2.2.2.2
def wgts (St : List Ent) : Nat := (St.map wgt).sum
def owes (St : List Ent) : List (ByteArray × Int) := St.reverse.flatMap ows
theorem wgts_app (A C : List Ent) : wgts (A ++ C) = wgts A + wgts C := by unfold wgts; rw [List.map_append, List.sum_append]
theorem wgts_one (e : Ent) : wgts [e] = wgt e := by simp [wgts]
theorem owes_app (A C : List Ent) : owes (A ++ C) = owes C ++ owes A := by unfold owes; rw [List.reverse_append, List.flatMap_append]
theorem owes_one (e : Ent) : owes [e] = ows e := by simp [owes]
theorem wgt_pos (e : Ent) : 0 < wgt e := Nat.lt_of_le_of_lt (Nat.zero_le _) (total_pos _ _ _)
theorem wgts_len (St : List Ent) : St.length ≤ wgts St := len_le_sum St wgt fun e _ => wgt_pos e

def cells4 (St : List Ent) : List Value := St.flatMap cls
theorem cells4_length (St : List Ent) : (cells4 St).length = St.length * 4 := by
  induction St with
  | nil => rfl
  | cons x E ih =>
    unfold cells4 at *
    simp only [List.flatMap_cons, List.length_append, List.length_cons, ih, cls, List.length_nil]
    omega
def Own4 (w : World) (B : Nat) (v : Value) (St : List Ent) : Prop := w.ownsRow B 56 4 v St.length (cells4 St)
theorem cells4_app (A : List Ent) (e : Ent) : cells4 (A ++ [e]) = cells4 A ++ cls e := by
  unfold cells4
  rw [List.flatMap_append]
  simp only [List.flatMap_cons, List.flatMap_nil, List.append_nil]
theorem Own4.push {w : World} {B : Nat} {v : Value} {St : List Ent} {e : Ent} (h : w.ownsRow B 56 4 v (St.length + 1) (cells4 St ++ cls e)) : Own4 w B v (St ++ [e]) := by
  unfold Own4
  rw [cells4_app, List.length_append]
  exact h
theorem Own4.block {w w' : World} {B : Nat} {v : Value} {St : List Ent} (h : Own4 w B v St) (hb : ∀ k, v.ownBlock = some k → w'.heap[k]? = w.heap[k]?) : Own4 w' B v St := by
  refine ⟨h.1, ?_⟩
  rcases h.2 with h2 | ⟨g, cap, cur, hv, hg, hh, r⟩
  · exact .inl h2
  · exact .inr ⟨g, cap, cur, hv, hg, by rw [hb g (by rw [hv]; rfl)]; exact hh, r⟩
theorem Own4.alloc {w : World} {B : Nat} {v : Value} {St : List Ent} (h : Own4 w B v St) (o : Obj) : Own4 (w.alloc o) B v St := World.ownsRow.alloc h o

/-- The state of the worklist's loop: out in v5, the stack in v6. -/
structure MInv (B : Nat) (w wr : World) (v5 v6 : Value) (O : List (ByteArray × Int)) (St : List Ent) : Prop where
  out : Own2 31 wr B v5 O
  stk : Own4 wr B v6 St
  apt : ∀ k, v5.ownBlock = some k → v6.ownBlock ≠ some k
  bel : Below B w wr
theorem MInv.alloc {B : Nat} {w wr : World} {v5 v6 : Value} {O : List (ByteArray × Int)} {St : List Ent} (h : MInv B w wr v5 v6 O St) (hB : B ≤ w.heap.size) (o : Obj) : MInv B w (wr.alloc o) v5 v6 O St :=
  ⟨h.out.alloc o, h.stk.alloc o, h.apt, h.bel.alloc (Nat.le_trans hB h.bel.size) o⟩
/-- Behind an append to the stack. -/
theorem MInv.push {B : Nat} {w wr w1 : World} {v5 v6 : Value} {O : List (ByteArray × Int)} {St : List Ent} {e : Ent} {g cap H : Nat} (h : MInv B w wr v5 v6 O St) (hB : B ≤ w.heap.size)
    (h1 : w1.ownsRow B 56 4 (.slice (some ⟨g, 0, none⟩) (St.length + 1) cap) (St.length + 1) (cells4 St ++ cls e)) (hg : wr.grownBy w1 v6.ownBlock) (hat : v6.ownBlock = some g ∨ g = H) (hH : wr.heap.size ≤ H) :
    MInv B w w1 v5 (.slice (some ⟨g, 0, none⟩) (St.length + 1) cap) O (St ++ [e]) := by
  have ho := Off.grown (m := St.length + 1) (cap := cap) h.stk (Nat.le_trans hB h.bel.size) hg hat hH
  have hlt : ∀ k, v5.ownBlock = some k → k < wr.heap.size := fun k hk => (World.ownsRow.lt h.out k hk).2
  exact ⟨h.out.block fun k hk => (ho.block k (hlt k hk) (h.apt k hk)).1, Own4.push h1, fun k hk => (ho.block k (hlt k hk) (h.apt k hk)).2, h.bel.trans ho.below⟩
/-- Behind an append to out. -/
theorem MInv.give {B : Nat} {w wr w1 : World} {v5 v6 : Value} {O : List (ByteArray × Int)} {St : List Ent} {q : ByteArray} {i : Int} {g cap H : Nat} (h : MInv B w wr v5 v6 O St) (hB : B ≤ w.heap.size)
    (h1 : w1.ownsRow B 31 2 (.slice (some ⟨g, 0, none⟩) (O.length + 1) cap) (O.length + 1) (prs O ++ [.string q, .int .i64 i])) (hg : wr.grownBy w1 v5.ownBlock) (hat : v5.ownBlock = some g ∨ g = H) (hH : wr.heap.size ≤ H) :
    MInv B w w1 (.slice (some ⟨g, 0, none⟩) (O.length + 1) cap) v6 (O ++ [(q, i)]) St := by
  have ho := Off.grown (m := O.length + 1) (cap := cap) h.out (Nat.le_trans hB h.bel.size) hg hat hH
  have hlt : ∀ k, v6.ownBlock = some k → k < wr.heap.size := fun k hk => (World.ownsRow.lt h.stk k hk).2
  have hap : ∀ k, v6.ownBlock = some k → v5.ownBlock ≠ some k := fun k hk e => h.apt k e hk
  exact ⟨Own2.push h1, h.stk.block fun k hk => (ho.block k (hlt k hk) (hap k hk)).1, fun k hk e => (ho.block k (hlt k e) (hap k e)).2 hk, h.bel.trans ho.below⟩
/-- The stack, popped. -/
theorem MInv.pop {B : Nat} {w wr : World} {v5 v6 : Value} {O : List (ByteArray × Int)} {St : List Ent} {e : Ent} (h : MInv B w wr v5 v6 O (St ++ [e])) :
    ∃ g cap, v6 = .slice (some ⟨g, 0, none⟩) (St.length + 1) cap ∧ St.length + 1 ≤ cap ∧ g < wr.heap.size ∧ v5.ownBlock ≠ some g ∧ (∀ j u, (cls e)[j]? = some u → wr.cell? ⟨g, St.length * 4 + j, none⟩ = some u) ∧
      MInv B w wr v5 (.slice (some ⟨g, 0, none⟩) St.length cap) O St := by
  have hs := h.stk
  unfold Own4 at hs
  rw [List.length_append] at hs
  obtain ⟨g, cap, hv, hb, hl⟩ := hs.form (by simp)
  have hcap : St.length + 1 ≤ cap := by
    rcases hs.2 with ⟨_, h0⟩ | ⟨g', cap', cur, hv', _, _, hn, _⟩
    · simp at h0
    · rw [hv] at hv'
      cases hv'
      exact hn
  refine ⟨g, cap, hv, hcap, hl, fun e5 => h.apt g e5 (by rw [hv]; rfl), fun j u hu => ?_, h.out, ?_, fun k hk e6 => h.apt k hk (by rw [hv]; exact e6), h.bel⟩
  · have hc := hs.cells (g := g) (by rw [hv]; rfl) (St.length * 4 + j) u (by
      rw [cells4_app, List.getElem?_append_right (by rw [cells4_length]; omega), cells4_length]
      rw [← hu]
      congr 1
      omega)
    have ha : (⟨g, 0, none⟩ : Addr).add (St.length * 4 + j) = ⟨g, St.length * 4 + j, none⟩ := by unfold Addr.add; split <;> simp_all
    rwa [ha] at hc
  · rw [cells4_app, hv] at hs
    exact ownsRow_pop (cells4_length St) hs
end Go.Proofs.Qxb6601217a.Tr
