/- faultsModelPaths: its state between the rounds, and while fields are pushed. -/
import Derived.Test.Qxb6601217aStack
namespace Go.Proofs.Qxb6601217a.Tr
open Go.RowKit

theorem MInv.shape {B : Nat} {w wr : World} {v5 v6 : Value} {O : List (ByteArray × Int)} {St : List Ent} (h : MInv B w wr v5 v6 O St) : ∃ a cap, v6 = .slice a St.length cap := by
  rcases h.stk.2 with ⟨hv, hn⟩ | ⟨g, cap, cur, hv, _⟩
  · exact ⟨none, 0, by rw [hv, hn]⟩
  · exact ⟨_, _, hv⟩
/-- The loop's state, with what it owes. -/
def MSt (B : Nat) (w wr : World) (v5 v6 : Value) (St : List Ent) (m tot : Nat) (PF : List (ByteArray × Int)) : Prop :=
  ∃ O, MInv B w wr v5 v6 O St ∧ O ++ owes St = PF ∧ m + wgts St ≤ tot ∧ O.length ≤ m ∧ ∀ e ∈ St, fts (fun b => b < B) wr e
def ModelIs (w : World) (PF : List (ByteArray × Int)) (e : Ending) (w' : World) : Prop := ∃ v', e = .returned v' ∧ Own2 31 w' w.heap.size v' PF ∧ Below w.heap.size w w'
theorem start_stack (w : World) (d : Nat) (t : T d) (p : ByteArray) (x y z : Value) (o : Obj) (hf : Fits (fun b => b < w.heap.size) w d t x y z) :
    MSt w.heap.size w ((w.alloc o).alloc (.cells #[x, y, z, .string p] 56)) (.slice none 0 0) (.slice (some ⟨w.heap.size + 1, 0, none⟩) 1 1) [ent d t p x y z] 0 (total d t p.size) (pathsF d t p) := by
  have hb : Below w.heap.size w ((w.alloc o).alloc (.cells #[x, y, z, .string p] 56)) := ((Below.refl _ w).alloc (Nat.le_refl _) _).alloc (by rw [sz_alloc]; omega) _
  refine ⟨[], ⟨World.ownsRow_nil _ _ _ _, ?_, (fun k hk => by cases hk), hb⟩, by rw [owes_one]; rfl, by rw [wgts_one]; exact Nat.le_of_eq (Nat.zero_add _), Nat.le_refl _, ?_⟩
  · refine ⟨rfl, .inr ⟨w.heap.size + 1, 1, #[x, y, z, .string p], rfl, Nat.le_succ _, ?_, Nat.le_refl _, by decide, rfl, rfl⟩⟩
    have h := heap_alloc_new (w.alloc o) (.cells #[x, y, z, .string p] 56)
    rwa [sz_alloc] at h
  · intro e he
    obtain rfl := List.mem_singleton.1 he
    exact hf.below hb

/-- The entry on top, taken off. -/
structure Popped (B : Nat) (w wr : World) (v5 v6 : Value) (m tot : Nat) (PF : List (ByteArray × Int)) (St : List Ent) (d : Nat) (s : ByteArray) (iv : Int) (L : List (T d)) (p : ByteArray) (n : Nat) (a : Option Addr) (c g cap : Nat) (O : List (ByteArray × Int)) : Prop where
  hv : v6 = .slice (some ⟨g, 0, none⟩) (St.length + 1) cap
  hcap : St.length + 1 ≤ cap
  c0 : wr.cell? ⟨g, St.length * 4, none⟩ = some (.string s)
  c1 : wr.cell? ⟨g, St.length * 4 + 1, none⟩ = some (.int .i64 iv)
  c2 : wr.cell? ⟨g, St.length * 4 + 2, none⟩ = some (.slice a n c)
  c3 : wr.cell? ⟨g, St.length * 4 + 3, none⟩ = some (.string p)
  inv : MInv B w wr v5 (.slice (some ⟨g, 0, none⟩) St.length cap) O St
  out : O ++ (pathsF (d + 1) (mk s iv L) p ++ owes St) = PF
  wg : m + (wgts St + total (d + 1) (mk s iv L) p.size) ≤ tot
  ol : O.length ≤ m
  fit : ∀ e ∈ St, fts (fun b => b < B) wr e
  hn : n = L.length
  kids : Kids (fun b => b < B) wr d L a
theorem MSt.pop {B : Nat} {w wr : World} {v5 v6 : Value} {St : List Ent} {m tot : Nat} {PF : List (ByteArray × Int)} (h : MSt B w wr v5 v6 St m tot PF) (hne : St ≠ []) :
    ∃ St' d s iv L p n a c g cap O, Popped B w wr v5 v6 m tot PF St' d s iv L p n a c g cap O := by
  obtain ⟨St', e, rfl⟩ : ∃ St' e, St = St' ++ [e] := ⟨St.dropLast, St.getLast hne, (List.dropLast_concat_getLast hne).symm⟩
  obtain ⟨O, hI, hO, hw, hOl, hft⟩ := h
  obtain ⟨g, cap, hv, hcap, hg, hg5, hcl, hI'⟩ := hI.pop
  have hfe := hft _ (List.mem_append_right _ (List.mem_singleton.2 rfl))
  rw [wgts_app, wgts_one] at hw
  rw [owes_app, owes_one] at hO
  obtain ⟨d1, t1, p1, x1, y1, z1⟩ := e
  cases d1 with
  | zero => exact Empty.elim t1
  | succ d1 =>
    obtain ⟨s1, iv1, L, n1, a1, c1, ht, hn1, hx, hy, hz, hs1, ha1, hm1, hk1⟩ := Fits.open' hfe
    dsimp only at ht hx hy hz
    subst ht
    subst hx
    subst hy
    subst hz
    exact ⟨St', d1, s1, iv1, L, p1, n1, a1, c1, g, cap, O, hv, hcap, hcl 0 _ rfl, hcl 1 _ rfl, hcl 2 _ rfl, hcl 3 _ rfl, hI', hO, hw, hOl, fun e he => hft e (List.mem_append_left _ he), hn1, hk1⟩

/-- The fields from k on have been pushed, the last one first. -/
structure PushIs (B : Nat) (w wr : World) (v5 v6 : Value) (O : List (ByteArray × Int)) (St : List Ent) (d : Nat) (L : List (T d)) (a : Option Addr) (pre : ByteArray) (mx k : Nat) (Pk : List Ent) : Prop where
  inv : MInv B w wr v5 v6 O (St ++ Pk)
  owe : owes Pk = (L.drop k).flatMap fun t => pathsF d t pre
  wgh : wgts Pk ≤ sumK d (L.drop k) mx
  fp : ∀ e ∈ Pk, fts (fun b => b < B) wr e
  fs : ∀ e ∈ St, fts (fun b => b < B) wr e
  kids : Kids (fun b => b < B) wr d L a
theorem PushIs.start {B : Nat} {w wr : World} {v5 v6 : Value} {O : List (ByteArray × Int)} {St : List Ent} {d : Nat} {L : List (T d)} {a : Option Addr} {n : Nat} (pre : ByteArray) (mx : Nat) (h : MInv B w wr v5 v6 O St) (fs : ∀ e ∈ St, fts (fun b => b < B) wr e) (kids : Kids (fun b => b < B) wr d L a) (hn : n = L.length) :
    PushIs B w wr v5 v6 O St d L a pre mx n [] := by
  subst hn
  have e : L.drop L.length = [] := List.drop_length
  refine ⟨by rwa [List.append_nil], by rw [e]; rfl, by rw [e]; exact Nat.le_refl _, fun e he => (by cases he), fs, kids⟩
theorem fts_below {B : Nat} {wr w1 : World} {e : Ent} (h : fts (fun b => b < B) wr e) (hb : Below B wr w1) : fts (fun b => b < B) w1 e := Fits.move h fun b hs _ => ⟨hs, hb.block b hs⟩
theorem PushIs.step {B : Nat} {w wr w1 : World} {v5 v6 : Value} {O : List (ByteArray × Int)} {St : List Ent} {d : Nat} {L : List (T d)} {a : Option Addr} {pre : ByteArray} {mx k : Nat} {Pk : List Ent} {x y z : Value} {o : Obj} {g cap H : Nat} (h : PushIs B w wr v5 v6 O St d L a pre mx (k + 1) Pk) (hB : B ≤ w.heap.size) (hk : k < L.length) (hx : Fits (fun b => b < B) wr d L[k] x y z) (hm : pre.size ≤ mx)
    (h1 : w1.ownsRow B 56 4 (.slice (some ⟨g, 0, none⟩) ((St ++ Pk).length + 1) cap) ((St ++ Pk).length + 1) (cells4 (St ++ Pk) ++ [x, y, z, .string pre])) (hg : (wr.alloc o).grownBy w1 v6.ownBlock) (hat : v6.ownBlock = some g ∨ g = H) (hH : H = wr.heap.size + 1) :
    PushIs B w w1 v5 (.slice (some ⟨g, 0, none⟩) ((St ++ Pk).length + 1) cap) O St d L a pre mx k (Pk ++ [ent d L[k] pre x y z]) := by
  have hi := (h.inv.alloc hB o).push (e := ent d L[k] pre x y z) hB h1 hg hat (by rw [sz_alloc]; omega)
  have hBr : B ≤ wr.heap.size := Nat.le_trans hB h.inv.bel.size
  have hb : Below B wr w1 := ((Below.refl _ _).alloc hBr o).trans ((Below.refl _ _).grown hg (by rw [sz_alloc]; omega) fun j hj => (World.ownsRow.lt h.inv.stk j hj).1)
  have ed : L.drop k = L[k] :: L.drop (k + 1) := List.drop_eq_getElem_cons hk
  refine ⟨by rw [← List.append_assoc]; exact hi, ?_, ?_, ?_, fun e he => fts_below (h.fs e he) hb, h.kids.move fun b hs _ => ⟨hs, hb.block b hs⟩⟩
  · rw [owes_app, owes_one, h.owe, ed]; rfl
  · rw [wgts_app, wgts_one, ed]
    have h1 := h.wgh
    have h2 : wgt (ent d L[k] pre x y z) ≤ total d L[k] mx := total_mono d L[k] hm
    unfold sumK at *
    simp only [List.map_cons, List.sum_cons]
    omega
  · intro e he
    rcases List.mem_append.1 he with he | he
    · exact fts_below (h.fp e he) hb
    · obtain rfl := List.mem_singleton.1 he
      exact Fits.move hx fun b hs _ => ⟨hs, hb.block b hs⟩
theorem quad_new (w : World) (x y z u : Value) (t : TypeId) : ∀ j v, [x, y, z, u][j]? = some v → (w.alloc (.cells #[x, y, z, u] t)).cell? ((⟨w.heap.size, 0, none⟩ : Addr).add j) = some v :=
  World.news_of_block (cs := #[x, y, z, u]) (t := t) (fr := (0, 0)) (heap_alloc_new w (.cells #[x, y, z, u] t))
theorem info31 : (Try.prog.info? 31).map (fun i => (i.zero, i.size, i.bytes)) = some (some (.agg #[.string ByteArray.empty, .int .i64 0]), 2, 24) := by kernel_rfl
theorem info56 : (Try.prog.info? 56).map (fun i => (i.zero, i.size, i.bytes)) = some (some (.agg #[.string ByteArray.empty, .int .i64 0, .slice none 0 0, .string ByteArray.empty]), 4, 64) := by kernel_rfl
end Go.Proofs.Qxb6601217a.Tr
