/- The contract of (*gathering).add. -/
import Derived.Test.Qxb6602261aGath
import Derived.Deep.CutBlock
namespace Go.Proofs.Qxb6602261a.Nm
open Go.RowKit

theorem cell_set_far {w : World} {gb o b q : Nat} {v : Value} (h : b ≠ gb) : (w.setCell ⟨gb, o, none⟩ v).cell? ⟨b, q, none⟩ = w.cell? ⟨b, q, none⟩ :=
  World.cell?_of_block (Below.heap_setCell _ _ _ _ h)

/-- What a call of add leaves: the pair handed back; the gathering's cells; its list. -/
structure Added (w w' : World) (gb B : Nat) (gen : Int) (F : List ByteArray) (ok op : Bool) (r : Option Nat) (e : Ending) (v : Value) : Prop where
  he : e = .returned (.tuple #[if ok = true then v else .slice none 0 0, .bool ok])
  hg : GB w' gb (.int .u64 gen) v (.bool op)
  own : Own w' B v F
  keep : Keep w w' gb r

/-- Is the list handed back? Is the gathering open behind the call? -/
def okOf (open1 more : Bool) (most : Int) (f : Nat) : Bool := open1 && !decide (most < f) && !more
def opOf (open1 more : Bool) (most : Int) (f : Nat) : Bool := open1 && !decide (most < f) && more

/-- Behind a first part the list is nil just where the part's names are. -/
def NilFact (after : ByteArray) (a : Option Addr) (v : Value) : Prop := after.toList.isEmpty = true → (v = .slice none 0 0 ↔ a = none)

/-- How the switch of add ends: a first part; a part that joins; a stray one. -/
def Turn (gen generation : Int) (F L : List ByteArray) (op : Bool) (after : ByteArray) (v : Value) (open1 : Bool) (F1 : List ByteArray) (gen1 : Int) (r : Option Nat) : Prop :=
  (after.toList.isEmpty = true ∧ true = open1 ∧ L = F1 ∧ generation = gen1 ∧ none = r) ∨
  (after.toList.isEmpty = false ∧ (true = op ∧ gen = generation ∧ ∃ m, F.length = m + 1 ∧ get F m = after) ∧ true = open1 ∧ F ++ L = F1 ∧ gen = gen1 ∧ v.ownBlock = r) ∨
  (after.toList.isEmpty = false ∧ (false = op ∨ (true = op ∧ (generation == gen) = false) ∨ (true = op ∧ gen = generation ∧ F.length = 0) ∨ (true = op ∧ gen = generation ∧ ∃ m, F.length = m + 1 ∧ get F m ≠ after)) ∧ false = open1 ∧ F = F1 ∧ gen = gen1 ∧ none = r)

/-- The state behind the switch. -/
def Switched (w wx : World) (gb B : Nat) (gen1 : Int) (F1 : List ByteArray) (open1 more : Bool) (r : Option Nat) (after : ByteArray) (a : Option Addr) : Prop :=
  ∃ v1, GB wx gb (.int .u64 gen1) v1 (.bool open1) ∧ Own wx B v1 F1 ∧ Keep w wx gb r ∧ wx.cell? ⟨w.heap.size, 1, none⟩ = some (.bool more) ∧ NilFact after a v1

set_option maxHeartbeats 4000000 in
set_option maxRecDepth 100000 in
theorem add_any (gb B : Nat) (gen generation : Int) (v : Value) (F : List ByteArray) (op more : Bool) (after : ByteArray) (a : Option Addr) (n cap : Nat) (L : List ByteArray) (most : Int) (w : World)
    (g : GB w gb (.int .u64 gen) v (.bool op)) (own : Own w B v F) (hB : B ≤ w.heap.size) (open1 : Bool) (F1 : List ByteArray) (gen1 : Int) (r : Option Nat) (ht : Turn gen generation F L op after v open1 F1 gen1 r)
    (hL : L.length = n) (hS : StrsAt w a n (get L)) (hn : n ≤ 65536) (hz : a = none → n = 0 ∧ cap = 0) (hF : F.length ≤ 1048576) :
    Calls Try.prog 43 #[.pointer (some ⟨gb, 0, none⟩), .int .u64 generation, .agg #[.string after, .bool more], .slice a n cap, .int .i64 most] w fun e w' =>
      ∃ v', Added w w' gb B gen1 F1 (okOf open1 more most F1.length) (opOf open1 more most F1.length) r e v' ∧ NilFact after a v' := by
  have HS : Hid (StrsAt w a n (get L) ∧ L.length = n ∧ (a = none → n = 0 ∧ cap = 0)) := ⟨hS, hL, hz⟩
  have HV : Hid (∀ k, v.ownBlock = some k → k < w.heap.size) := fun k hk => (World.ownsRow.lt own k hk).2
  have HT : Hid (Turn gen generation F L op after v open1 F1 gen1 r) := ht
  have hlt := g.lt
  have hne : gb ≠ w.heap.size := by omega
  have hne' : w.heap.size ≠ gb := by omega
  have HA : Hid (GB (w.alloc (.cells #[.string after, .bool more] 64)) gb (.int .u64 gen) v (.bool op) ∧ Own (w.alloc (.cells #[.string after, .bool more] 64)) B v F ∧ Keep w (w.alloc (.cells #[.string after, .bool more] 64)) gb r ∧
      StrsAt (w.alloc (.cells #[.string after, .bool more] 64)) a n (get L) ∧ (w.alloc (.cells #[.string after, .bool more] 64)).heap.size = w.heap.size + 1) :=
    ⟨g.below ((Below.refl _ _).alloc (Nat.le_refl _) _), own.alloc _, Keep.of_alloc _ _ _ _, hS.below ((Below.refl _ _).alloc (Nat.le_refl _) _), by simp⟩
  have q0 : (w.alloc (.cells #[.string after, .bool more] 64)).cell? ⟨w.heap.size, 0, none⟩ = some (.string after) := by simp
  have q1 : (w.alloc (.cells #[.string after, .bool more] 64)).cell? ⟨w.heap.size, 1, none⟩ = some (.bool more) := by simp
  clear hS hL hz g own ht
  go_enter Try.func43, Try.ntmps43
  go_upto_block 0 with fail
  generalize w.alloc (.cells #[.string after, .bool more] 64) = wa at *
  go_cut [] from 12 (fun wx => Hid (Switched w wx gb B gen1 F1 open1 more r after a))
  case rest =>
    clear q0 q1 HA
    obtain ⟨v1, hg, hown, hkeep, hp, hnil⟩ := hcut.out
    obtain ⟨a1, c1, rfl, hat⟩ := hown.at
    have HR : Hid (GB wc gb (.int .u64 gen1) (.slice a1 F1.length c1) (.bool open1) ∧ Own wc B (.slice a1 F1.length c1) F1 ∧ Keep w wc gb r ∧ NilFact after a (.slice a1 F1.length c1)) := ⟨hg, hown, hkeep, hnil⟩
    have k0 := hg.c0
    have k1 := hg.c1
    have k2 := hg.c2
    have f2 := hg.fr 2
    clear hg hown hkeep hnil hat hcut
    obtain ⟨f1, hf1⟩ : ∃ f1, F1.length = f1 := ⟨_, rfl⟩
    rw [hf1] at HR k1
    have HF : Hid (F1.length = f1) := hf1
    clear hf1 HT HS
    by_cases hbig : most < f1
    · have HE : Hid (okOf open1 more most F1.length = false ∧ opOf open1 more most F1.length = false) := by
        rw [HF.out]; simp [Hid, okOf, opOf, hbig]
      go_wp2
      go_ret2
      rw [HE.out.1, HE.out.2]
      exact ⟨.slice a1 f1 c1, ⟨rfl, HR.out.1.set2 _, HR.out.2.1.setG HR.out.1, HR.out.2.2.1.trans (Keep.of_set _ _ _ _ _)⟩, HR.out.2.2.2⟩
    · cases open1
      · have HE : Hid (okOf false more most F1.length = false ∧ opOf false more most F1.length = false) := by simp [Hid, okOf, opOf]
        go_wp2
        go_ret2
        rw [HE.out.1, HE.out.2]
        exact ⟨.slice a1 f1 c1, ⟨rfl, HR.out.1, HR.out.2.1, HR.out.2.2.1⟩, HR.out.2.2.2⟩
      · cases more
        · have HE : Hid (okOf true false most F1.length = true ∧ opOf true false most F1.length = false) := by
            rw [HF.out]; simp [Hid, okOf, opOf, hbig]
          go_wp2
          go_ret2
          rw [HE.out.1, HE.out.2]
          exact ⟨.slice a1 f1 c1, ⟨rfl, HR.out.1.set2 _, HR.out.2.1.setG HR.out.1, HR.out.2.2.1.trans (Keep.of_set _ _ _ _ _)⟩, HR.out.2.2.2⟩
        · have HE : Hid (okOf true true most F1.length = false ∧ opOf true true most F1.length = true) := by
            rw [HF.out]; simp [Hid, okOf, opOf, hbig]
          go_wp2
          go_ret2
          rw [HE.out.1, HE.out.2]
          exact ⟨.slice a1 f1 c1, ⟨rfl, HR.out.1, HR.out.2.1, HR.out.2.2.1⟩, HR.out.2.2.2⟩
  case first =>
    rcases HT.out with ⟨haf, rfl, rfl, rfl, rfl⟩ | ⟨haf, ⟨rfl, rfl, m, hm, hlast⟩, rfl, rfl, rfl, rfl⟩ | ⟨haf, hst, rfl, rfl, rfl, rfl⟩
    · -- a first part
      go_wp2_with fail
      refine (sclone_any a n cap L _ HS.out.2.1 HA.out.2.2.2.1 hn HS.out.2.2).mono ?_
      rintro e w2 ⟨v', rfl, hown, hnil, hbel⟩
      have hg2 : GB w2 gb (.int .u64 gen) v (.bool op) := HA.out.1.below hbel
      have k0 := hg2.c0
      have k1 := hg2.c1
      have k2 := hg2.c2
      have f0 := hg2.fr 0
      have f1 := hg2.fr 1
      have f2 := hg2.fr 2
      have p1 : w2.cell? ⟨w.heap.size, 1, none⟩ = some (.bool more) := (hbel.cell (p := ⟨w.heap.size, 1, none⟩) (by rw [HA.out.2.2.2.2]; simp)).trans q1
      obtain ⟨a2, c2, hv2, hat⟩ := hown.at
      rw [HS.out.2.1] at hv2
      subst hv2
      have hBw : B ≤ wa.heap.size := by rw [HA.out.2.2.2.2]; omega
      have HO : Hid (Own w2 B (.slice a2 n c2) L ∧ (Value.slice a2 n c2 = .slice none 0 0 ↔ a = none) ∧ Keep w w2 gb none ∧ GB w2 gb (.int .u64 gen) v (.bool op)) := ⟨hown.mono hBw, hnil, HA.out.2.2.1.trans (Keep.of_below hbel _ _), hg2⟩
      clear hown hnil hbel hg2 hat q0 q1 HA HT
      go_wp2
      go_meet
      case rel =>
        obtain ⟨h1, h2, h3, h4⟩ := HO.out
        refine ⟨_, ((h4.set0 _).set1 _).set2 _, ?_, ?_, ?_, fun _ => h2⟩
        · exact ((h1.setG h4).setG (h4.set0 _)).setG ((h4.set0 _).set1 _)
        · exact ((h3.trans (Keep.of_set _ _ _ _ _)).trans (Keep.of_set _ _ _ _ _)).trans (Keep.of_set _ _ _ _ _)
        · rw [cell_set_far hne', cell_set_far hne', cell_set_far hne']; exact p1
    · -- a part that joins
      obtain ⟨h1, h2, h3, h4, h5⟩ := HA.out
      obtain ⟨af, cf, hv, hsf, hnf, hcf, hbf⟩ := h2.at
      have k0 := h1.c0
      have k1 := h1.c1
      have k2 := h1.c2
      have f0 := h1.fr 0
      have f1 := h1.fr 1
      have f2 := h1.fr 2
      rw [hm] at hsf hv
      subst hv
      obtain ⟨b, o, rfl, hblt, hcell⟩ := hsf.split (by omega)
      have hc0 : wa.cell? ⟨b, o + m, none⟩ = some (.string after) := by rw [hcell m (by omega), hlast]
      have hbB := (hbf _ rfl).1
      have hm1 : m ≤ 1048576 := by omega
      have hwr : IntKind.i64.wrap (m : Int) = m := by rw [IntKind.wrap_i64]; omega
      have hl1 : (0 : Int) < (m : Int) + 1 := by omega
      have hl2 : (m : Int) < (m : Int) + 1 := by omega
      have hbw : B ≤ wa.heap.size := by omega
      have HO : Hid (Own wa B (.slice (some ⟨b, o, none⟩) (m + 1) cf) F ∧ StrsAt wa a n (get L) ∧ Keep w wa gb (Value.ownBlock (.slice (some ⟨b, o, none⟩) (m + 1) cf)) ∧ GB wa gb (.int .u64 gen) (.slice (some ⟨b, o, none⟩) (m + 1) cf) (.bool true) ∧ F.length = m + 1) :=
        ⟨h2, h4, h3, h1, hm⟩
      clear h1 h2 h3 h4 h5 hsf hnf hcf hbf hblt hcell HA HT hlast hbB hm
      go_wp2_with fail
      go_big_quiet (fail)
      have HQ : Hid (Own (wa.drewN nq) B (.slice (some ⟨b, o, none⟩) (m + 1) cf) F ∧ StrsAt (wa.drewN nq) a n (get L) ∧ Keep w (wa.drewN nq) gb (Value.ownBlock (.slice (some ⟨b, o, none⟩) (m + 1) cf)) ∧ GB (wa.drewN nq) gb (.int .u64 gen) (.slice (some ⟨b, o, none⟩) (m + 1) cf) (.bool true) ∧ F.length = m + 1) :=
        ⟨HO.out.1, HO.out.2.1, HO.out.2.2.1.trans (Keep.of_drewN _ _ _ _), HO.out.2.2.2.1, HO.out.2.2.2.2⟩
      have r1 : (wa.drewN nq).cell? ⟨gb, 1, none⟩ = some (.slice (some ⟨b, o, none⟩) (m + 1) cf) := k1
      have r2 : (wa.drewN nq).cell? ⟨w.heap.size, 1, none⟩ = some (.bool more) := q1
      have r3 : B ≤ (wa.drewN nq).heap.size := hbw
      clear HO k0 k1 k2 f0 f1 f2 q0 q1 hc0 hbw
      generalize wa.drewN nq = wq at *
      have hneb : gb ≠ b := by have := HQ.out.1.ne HQ.out.2.2.2.1; simp [Value.ownBlock] at this; exact fun e => this e.symm
      have hneb2 : w.heap.size ≠ b := by have := HV.out b rfl; omega
      go_wp2_with (at_builtin; refine wpList_app rfl (.tmp 73) (.tmp 74) rfl B (.slice (some ⟨b, o, none⟩) (m + 1) cf) F rfl HQ.out.1 a n cap L rfl HS.out.2.1 HQ.out.2.1 HS.out.2.2 (by omega) r3 ?_; intro v3 w3 hown3 hgrow3 hnil3 hat3; obtain ⟨a3, d3, rfl, _⟩ := hown3.at; have hg3 : Hid (GB w3 gb (.int .u64 gen) (.slice (some ⟨b, o, none⟩) (m + 1) cf) (.bool true)) := HQ.out.2.2.2.1.grown HQ.out.1 hgrow3; have c3 := hg3.out.c1; have f3 := hg3.out.fr 1; have p3 : w3.cell? ⟨w.heap.size, 1, none⟩ = some (.bool more) := (World.cell?_of_block (hgrow3.block w.heap.size (World.block_lt_of_cell? wq _ r2) (by simp [Value.ownBlock]; exact hneb2))).trans r2)
      go_meet
      case rel =>
        have hown4 : Own w3 B (.slice a3 (F.length + L.length) d3) (F ++ L) := by rw [← List.length_append]; exact hown3
        refine ⟨_, hg3.out.set1 _, hown4.setG hg3.out, (HQ.out.2.2.1.trans (Keep.of_grown hgrow3 _)).trans (Keep.of_set _ _ _ _ _), ?_, fun e => by rw [haf] at e; cases e⟩
        rw [cell_set_far hne']; exact p3
    · -- a stray part
      have HK : Hid (Own wa B v F ∧ Keep w wa gb none ∧ GB wa gb (.int .u64 gen) v (.bool op)) := ⟨HA.out.2.1, HA.out.2.2.1, HA.out.1⟩
      obtain ⟨h1, h2, h3, h4, h5⟩ := HA.out
      obtain ⟨af, cf, hv, hsf, hnf, hcf, hbf⟩ := h2.at
      have k0 := h1.c0
      have k1 := h1.c1
      have k2 := h1.c2
      have f2 := h1.fr 2
      clear h1 h2 h3 h4 h5 HA HT
      rcases hst with rfl | ⟨rfl, hge⟩ | ⟨rfl, rfl, hm⟩ | ⟨rfl, rfl, m, hm, hlast⟩
      · have HO : Hid (Own wa B v F ∧ Keep w wa gb none ∧ GB wa gb (.int .u64 gen) v (.bool false)) := HK.out
        clear hsf hnf hcf hbf HK hv
        go_wp2_with fail
        go_big_quiet (fail)
        have HQ : Hid (Own (wa.drewN nq) B v F ∧ Keep w (wa.drewN nq) gb none ∧ GB (wa.drewN nq) gb (.int .u64 gen) v (.bool false)) :=
          ⟨HO.out.1, HO.out.2.1.trans (Keep.of_drewN _ _ _ _), HO.out.2.2⟩
        have r1 : (wa.drewN nq).cell? ⟨gb, 2, none⟩ = some (.bool false) := k2
        have r2 : (wa.drewN nq).cell? ⟨w.heap.size, 1, none⟩ = some (.bool more) := q1
        have r3 : (wa.drewN nq).frozen? ⟨gb, 2, none⟩ = false := f2
        clear HO k0 k1 k2 f2 q0 q1
        generalize wa.drewN nq = wq at *
        go_wp2
        go_meet
        case rel =>
          refine ⟨_, HQ.out.2.2.set2 _, HQ.out.1.setG HQ.out.2.2, HQ.out.2.1.trans (Keep.of_set _ _ _ _ _), ?_, fun e => by rw [haf] at e; cases e⟩
          rw [cell_set_far hne']; exact r2
      · have HO : Hid (Own wa B v F ∧ Keep w wa gb none ∧ GB wa gb (.int .u64 gen) v (.bool true)) := HK.out
        clear hsf hnf hcf hbf HK hv
        go_wp2_with fail
        go_big_quiet (fail)
        have HQ : Hid (Own (wa.drewN nq) B v F ∧ Keep w (wa.drewN nq) gb none ∧ GB (wa.drewN nq) gb (.int .u64 gen) v (.bool true)) :=
          ⟨HO.out.1, HO.out.2.1.trans (Keep.of_drewN _ _ _ _), HO.out.2.2⟩
        have r1 : (wa.drewN nq).cell? ⟨gb, 2, none⟩ = some (.bool true) := k2
        have r2 : (wa.drewN nq).cell? ⟨w.heap.size, 1, none⟩ = some (.bool more) := q1
        have r3 : (wa.drewN nq).frozen? ⟨gb, 2, none⟩ = false := f2
        clear HO k0 k1 k2 f2 q0 q1
        generalize wa.drewN nq = wq at *
        go_wp2
        go_meet
        case rel =>
          refine ⟨_, HQ.out.2.2.set2 _, HQ.out.1.setG HQ.out.2.2, HQ.out.2.1.trans (Keep.of_set _ _ _ _ _), ?_, fun e => by rw [haf] at e; cases e⟩
          rw [cell_set_far hne']; exact r2
      · have HO : Hid (Own wa B v F ∧ Keep w wa gb none ∧ GB wa gb (.int .u64 gen) v (.bool true)) := HK.out
        rw [hm] at hv
        subst hv
        clear hsf hnf hcf hbf HK hm
        go_wp2_with fail
        go_big_quiet (fail)
        have HQ : Hid (Own (wa.drewN nq) B (.slice af 0 cf) F ∧ Keep w (wa.drewN nq) gb none ∧ GB (wa.drewN nq) gb (.int .u64 gen) (.slice af 0 cf) (.bool true)) :=
          ⟨HO.out.1, HO.out.2.1.trans (Keep.of_drewN _ _ _ _), HO.out.2.2⟩
        have r1 : (wa.drewN nq).cell? ⟨gb, 2, none⟩ = some (.bool true) := k2
        have r2 : (wa.drewN nq).cell? ⟨w.heap.size, 1, none⟩ = some (.bool more) := q1
        have r3 : (wa.drewN nq).frozen? ⟨gb, 2, none⟩ = false := f2
        clear HO k0 k1 k2 f2 q0 q1
        generalize wa.drewN nq = wq at *
        go_wp2
        go_meet
        case rel =>
          refine ⟨_, HQ.out.2.2.set2 _, HQ.out.1.setG HQ.out.2.2, HQ.out.2.1.trans (Keep.of_set _ _ _ _ _), ?_, fun e => by rw [haf] at e; cases e⟩
          rw [cell_set_far hne']; exact r2
      · have HO : Hid (Own wa B v F ∧ Keep w wa gb none ∧ GB wa gb (.int .u64 gen) v (.bool true)) := HK.out
        rw [hm] at hv hsf
        subst hv
        obtain ⟨b, o, rfl, hblt, hcell⟩ := hsf.split (by omega)
        have hc0 : wa.cell? ⟨b, o + m, none⟩ = some (.string (get F m)) := hcell m (by omega)
        have hm1 : m ≤ 1048576 := by omega
        have hwr : IntKind.i64.wrap (m : Int) = m := by rw [IntKind.wrap_i64]; omega
        have hl1 : (0 : Int) < (m : Int) + 1 := by omega
        have hl2 : (m : Int) < (m : Int) + 1 := by omega
        have hsq : (after.toList == (get F m).toList) = false := seq_false (fun e => hlast e.symm)
        clear hsf hnf hcf hbf HK hm hblt hcell hlast
        go_wp2_with fail
        go_big_quiet (fail)
        have HQ : Hid (Own (wa.drewN nq) B (.slice (some ⟨b, o, none⟩) (m + 1) cf) F ∧ Keep w (wa.drewN nq) gb none ∧ GB (wa.drewN nq) gb (.int .u64 gen) (.slice (some ⟨b, o, none⟩) (m + 1) cf) (.bool true)) :=
          ⟨HO.out.1, HO.out.2.1.trans (Keep.of_drewN _ _ _ _), HO.out.2.2⟩
        have r1 : (wa.drewN nq).cell? ⟨gb, 2, none⟩ = some (.bool true) := k2
        have r2 : (wa.drewN nq).cell? ⟨w.heap.size, 1, none⟩ = some (.bool more) := q1
        have r3 : (wa.drewN nq).frozen? ⟨gb, 2, none⟩ = false := f2
        clear HO k0 k1 k2 f2 q0 q1
        generalize wa.drewN nq = wq at *
        go_wp2
        go_meet
        case rel =>
          refine ⟨_, HQ.out.2.2.set2 _, HQ.out.1.setG HQ.out.2.2, HQ.out.2.1.trans (Keep.of_set _ _ _ _ _), ?_, fun e => by rw [haf] at e; cases e⟩
          rw [cell_set_far hne']; exact r2

end Go.Proofs.Qxb6602261a.Nm
