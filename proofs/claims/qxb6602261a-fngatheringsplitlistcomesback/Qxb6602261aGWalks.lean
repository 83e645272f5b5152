/- The contracts of ZZNewGathering, ZZGatheringAdd, zzb1EqualConcat and of the guard of FnGatheringAnswerIsTheList. -/
import Derived.Test.Qxb6602261aAdd
import Derived.Test.Qxb6602261aGuards
namespace Go.Proofs.Qxb6602261a.Nm
open Go.RowKit

/-- ZZNewGathering: a new block of three cells. -/
theorem new_any (gen : Int) (a : Option Addr) (n c : Nat) (op : Bool) (w : World) :
    Calls Try.prog 30 #[.int .u64 gen, .slice a n c, .bool op] w fun e w' =>
      e = .returned (.pointer (some ⟨w.heap.size, 0, none⟩)) ∧ w.alloc (.cells #[.int .u64 gen, .slice a n c, .bool op] 61) = w' := by
  go_enter Try.func30, Try.ntmps30
  go_wp2
  go_ret
  exact ⟨rfl, rfl⟩

/-- ZZGatheringAdd. -/
theorem zzadd_any (gb B : Nat) (gen generation : Int) (v : Value) (F : List ByteArray) (op more : Bool) (after : ByteArray) (a : Option Addr) (n cap : Nat) (L : List ByteArray) (most : Int) (w : World)
    (g : GB w gb (.int .u64 gen) v (.bool op)) (own : Own w B v F) (hB : B ≤ w.heap.size) (open1 : Bool) (F1 : List ByteArray) (gen1 : Int) (r : Option Nat) (ht : Turn gen generation F L op after v open1 F1 gen1 r)
    (hL : L.length = n) (hS : StrsAt w a n (get L)) (hn : n ≤ 65536) (hz : a = none → n = 0 ∧ cap = 0) (hF : F.length ≤ 1048576) :
    Calls Try.prog 31 #[.pointer (some ⟨gb, 0, none⟩), .int .u64 generation, .string after, .bool more, .slice a n cap, .int .i64 most] w fun e w' =>
      ∃ v', Added w w' gb B gen1 F1 (okOf open1 more most F1.length) (opOf open1 more most F1.length) r e v' ∧ NilFact after a v' := by
  have HC : Hid (Calls Try.prog 43 #[.pointer (some ⟨gb, 0, none⟩), .int .u64 generation, .agg #[.string after, .bool more], .slice a n cap, .int .i64 most] w fun e w' =>
      ∃ v', Added w w' gb B gen1 F1 (okOf open1 more most F1.length) (opOf open1 more most F1.length) r e v' ∧ NilFact after a v') := add_any gb B gen generation v F op more after a n cap L most w g own hB open1 F1 gen1 r ht hL hS hn hz hF
  clear g own ht hL hS hz
  generalize okOf open1 more most F1.length = ok at *
  generalize opOf open1 more most F1.length = op' at *
  go_enter Try.func31, Try.ntmps31
  go_wp2_with fail
  refine Calls.mono HC.out ?_
  rintro e w' ⟨v', hA, hN⟩
  have he := hA.he
  subst he
  have HA : Hid (GB w' gb (.int .u64 gen1) v' (.bool op') ∧ Own w' B v' F1 ∧ Keep w w' gb r ∧ NilFact after a v') := ⟨hA.hg, hA.own, hA.keep, hN⟩
  clear hA hN
  cases ok
  · go_wp2
    go_ret2
    exact ⟨v', ⟨rfl, HA.out.1, HA.out.2.1, HA.out.2.2.1⟩, HA.out.2.2.2⟩
  · go_wp2
    go_ret2
    exact ⟨v', ⟨rfl, HA.out.1, HA.out.2.1, HA.out.2.2.1⟩, HA.out.2.2.2⟩

set_option maxHeartbeats 2000000 in
/-- zzb1EqualConcat of a list that is the one followed by the other. -/
theorem concat_any (a0 a1 a2 : Option Addr) (n0 c0 n1 c1 n2 c2 : Nat) (L0 L1 L2 : List ByteArray) (w : World) (h1 : L1.length = n1) (h2 : L2.length = n2) (hn0 : n0 = n1 + n2) (h0 : L0 = L1 ++ L2)
    (hS0 : StrsAt w a0 n0 (get L0)) (hS1 : StrsAt w a1 n1 (get L1)) (hS2 : StrsAt w a2 n2 (get L2)) (hn1 : n1 ≤ 65536) (hn2 : n2 ≤ 65536) :
    Calls Try.prog 32 #[.slice a0 n0 c0, .slice a1 n1 c1, .slice a2 n2 c2] w fun e w' => e = .returned (.bool true) ∧ Drew w w' := by
  have HH : Hid (L1.length = n1 ∧ L2.length = n2 ∧ L0 = L1 ++ L2) := ⟨h1, h2, h0⟩
  clear h1 h2 h0
  subst hn0
  have hne : (((n1 : Int) + (n2 : Int)) != ((n1 : Int) + (n2 : Int))) = false := by simp
  go_enter Try.func32, Try.ntmps32
  go_wp2
  go_loopw [7] (fun i wr => ∃ k : Nat, k ≤ n1 ∧ i = .int .i64 k ∧ Drew w wr) (fun i _ => n1 - (intOf i).toNat)
  case atStart => exact ⟨0, Nat.zero_le _, rfl, Drew.refl _⟩
  case round =>
    obtain ⟨k, hk, rfl, hd⟩ := hrel
    by_cases hlt : k < n1
    · obtain ⟨b, o, rfl, hc0⟩ := (hS0.drew hd) k (by omega)
      obtain ⟨b', o', rfl, hc1⟩ := (hS1.drew hd) k hlt
      have e : get L0 k = get L1 k := by rw [HH.out.2.2]; exact get_append_left (by rw [HH.out.1]; exact hlt)
      rw [e] at hc0
      have hb1 : (k : Int) < (n1 : Int) := by omega
      have hb2 : (k : Int) < (n1 : Int) + (n2 : Int) := by omega
      have HD : Hid (Drew w wr) := hd
      clear hd hS0 hS1 hS2 e
      generalize get L1 k = s at hc0 hc1
      go_wp2_with fail
      go_big_quiet (fail)
      go_wp2
      go_roundw
      case rel => exact ⟨k + 1, by omega, by go_num, HD.out.drewN _⟩
      case measure => simp [intOf]; omega
    · have HD : Hid (Drew w wr) := hd
      clear hd
      go_wp2
      go_loopw [8] (fun i wr => ∃ k : Nat, k ≤ n2 ∧ i = .int .i64 k ∧ Drew w wr) (fun i _ => n2 - (intOf i).toNat)
      case atStart => exact ⟨0, Nat.zero_le _, rfl, HD.out⟩
      case round =>
        obtain ⟨q, hq, rfl, hd⟩ := hrel
        clear HD
        by_cases hqt : q < n2
        · obtain ⟨b, o, rfl, hc0⟩ := (hS0.drew hd) (n1 + q) (by omega)
          obtain ⟨b', o', rfl, hc1⟩ := (hS2.drew hd) q hqt
          have e : get L0 (n1 + q) = get L2 q := by rw [HH.out.2.2, ← HH.out.1]; exact get_append_right _ _ _
          rw [e] at hc0
          have hb1 : (q : Int) < (n2 : Int) := by omega
          have hb2 : (n1 : Int) + (q : Int) < (n1 : Int) + (n2 : Int) := by omega
          have hb3 : (0 : Int) ≤ (n1 : Int) + (q : Int) := by omega
          have hwr : IntKind.i64.wrap ((n1 : Int) + (q : Int)) = (n1 : Int) + (q : Int) := by rw [IntKind.wrap_i64]; omega
          have htn : ((n1 : Int) + (q : Int)).toNat = n1 + q := by omega
          have HD : Hid (Drew w wr) := hd
          clear hd hS0 hS1 hS2 e
          generalize get L2 q = s at hc0 hc1
          go_wp2_with fail
          go_big_quiet (fail)
          go_wp2
          go_roundw
          case rel => exact ⟨q + 1, by omega, by go_num, HD.out.drewN _⟩
          case measure => simp [intOf]; omega
        · have HD : Hid (Drew w wr) := hd
          clear hd
          go_wp2
          go_ret
          exact ⟨rfl, HD.out⟩

end Go.Proofs.Qxb6602261a.Nm
