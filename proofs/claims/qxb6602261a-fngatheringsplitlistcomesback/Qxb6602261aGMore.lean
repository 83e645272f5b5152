/- The guard of FnGatheringAnswerIsTheList; zzb1Clone as a list of the call's own; how a second add turns. -/
import Derived.Test.Qxb6602261aGWalks
namespace Go.Proofs.Qxb6602261a.Nm
open Go.RowKit

set_option maxHeartbeats 2000000 in
set_option maxRecDepth 100000 in
theorem bytes29_any (x0 x3 most : Int) (b2 b5 : Bool) (after : ByteArray) (a a' : Option Addr) (n cap n' cap' : Nat) (S S' : Nat → ByteArray) (w : World) (hS : StrsAt w a n S) (hS' : StrsAt w a' n' S') (hn : n ≤ maxLen) (hn' : n' ≤ maxLen) (ha : after.size ≤ maxLen) :
    Calls Try.prog 29 #[.int .u64 x0, .slice a n cap, .bool b2, .int .u64 x3, .string after, .bool b5, .slice a' n' cap', .int .i64 most] w fun e w' => SomeBool e ∧ w' = w := by
  unfold maxLen at hn hn' ha
  by_cases hl : n ≤ 1048576
  case neg =>
    go_enter Try.func29, Try.ntmps29
    go_wp2
    go_ret
    exact ⟨⟨_, rfl⟩, rfl⟩
  go_enter Try.func29, Try.ntmps29
  go_wp2
  go_loop [17, 18] (fun t i => ∃ (k : Nat) (z : Int), k ≤ n ∧ i = .int .i64 k ∧ t = .int .i64 z ∧ 0 ≤ z ∧ z ≤ 1048576) (fun _ i => n - (intOf i).toNat)
  case atStart => exact ⟨0, _, Nat.zero_le _, rfl, rfl, by omega, by omega⟩
  case round =>
    obtain ⟨k, z, hk, rfl, rfl, hz0, hz1⟩ := hrel
    by_cases hlt : k < n
    · obtain ⟨b, o, rfl, hc⟩ := hS k hlt
      clear hS hS'
      generalize S k = s at hc
      by_cases h1 : s.size ≤ 1048576
      · by_cases h2 : z + s.size ≤ 1048576
        · go_wp2
          go_round
          case rel => exact ⟨k + 1, z + s.size, by omega, by go_num, by go_num, by omega, by omega⟩
          case measure => simp [intOf]; omega
        · go_wp2
          go_ret
          exact ⟨⟨_, rfl⟩, rfl⟩
      · go_wp2
        go_ret
        exact ⟨⟨_, rfl⟩, rfl⟩
    · clear hS
      by_cases ha1 : after.size ≤ 1048576
      case neg =>
        go_wp2
        go_ret
        exact ⟨⟨_, rfl⟩, rfl⟩
      by_cases ha2 : z + after.size ≤ 1048576
      case neg =>
        go_wp2
        go_ret
        exact ⟨⟨_, rfl⟩, rfl⟩
      by_cases hl' : n' ≤ 1048576
      case neg =>
        go_wp2
        go_ret
        exact ⟨⟨_, rfl⟩, rfl⟩
      by_cases hl2 : z + after.size + n' ≤ 1048576
      case neg =>
        go_wp2
        go_ret
        exact ⟨⟨_, rfl⟩, rfl⟩
      go_wp2
      go_loop [17, 19] (fun t i => ∃ (k : Nat) (z : Int), k ≤ n' ∧ i = .int .i64 k ∧ t = .int .i64 z ∧ 0 ≤ z ∧ z ≤ 1048576) (fun _ i => n' - (intOf i).toNat)
      case atStart => exact ⟨0, _, Nat.zero_le _, rfl, rfl, by omega, by omega⟩
      case round =>
        obtain ⟨q, y, hq, rfl, rfl, hy0, hy1⟩ := hrel
        by_cases hqt : q < n'
        · obtain ⟨b, o, rfl, hc⟩ := hS' q hqt
          clear hS'
          generalize S' q = s at hc
          by_cases h1 : s.size ≤ 1048576
          · by_cases h2 : y + s.size ≤ 1048576
            · go_wp2
              go_round
              case rel => exact ⟨q + 1, y + s.size, by omega, by go_num, by go_num, by omega, by omega⟩
              case measure => simp [intOf]; omega
            · go_wp2
              go_ret
              exact ⟨⟨_, rfl⟩, rfl⟩
          · go_wp2
            go_ret
            exact ⟨⟨_, rfl⟩, rfl⟩
        · go_wp2
          go_ret
          exact ⟨⟨_, rfl⟩, rfl⟩

theorem own_of_row {w : World} {b n : Nat} {L : List ByteArray} (hL : L.length = n) (h : w.rowIs b 9 n (fun i => .string (get L i))) (hn : n ≤ maxLen) : Own w b (.slice (some ⟨b, 0, none⟩) n n) L := by
  obtain ⟨c, hb, hs, hc⟩ := h
  subst hL
  refine ⟨by simp, .inr ⟨b, _, c, rfl, Nat.le_refl _, hb, Nat.le_refl _, hn, by simpa using hs, ?_⟩⟩
  apply List.ext_getElem?
  intro i
  by_cases hi : i < L.length
  · have h : c[i]? = some (.string L[i]) := by rw [hc i hi, ← get_eq hi]
    simp [hi, h]
  · simp [List.getElem?_take, hi]

/-- zzb1Clone: what comes back is a list of the call's own; nil just where the list was. -/
theorem clone_own (a : Option Addr) (n cap : Nat) (L : List ByteArray) (w : World) (hL : L.length = n) (hS : StrsAt w a n (get L)) (hn : n ≤ 65536) (hz : a = none → n = 0 ∧ cap = 0) :
    Calls Try.prog 21 #[.slice a n cap] w fun e w' => ∃ a1 c1, e = .returned (.slice a1 n c1) ∧ Own w' w.heap.size (.slice a1 n c1) L ∧ Below w.heap.size w w' := by
  cases a with
  | none =>
    obtain ⟨rfl, rfl⟩ := hz rfl
    have hL0 : L = [] := List.eq_nil_of_length_eq_zero hL
    subst hL0
    refine (clone_nil w).mono ?_
    rintro e w' ⟨rfl, rfl⟩
    exact ⟨none, 0, rfl, Own.nil _ _, Below.refl _ _⟩
  | some x =>
    refine (clone_some x n cap (get L) w hS hn).mono ?_
    rintro e w' ⟨rfl, hrow, hbel⟩
    exact ⟨_, n, rfl, own_of_row hL hrow (by unfold maxLen; omega), hbel⟩

/-- The second call of add, after a name: it gives nothing. -/
theorem second_turn (gen generation : Int) (F N : List ByteArray) (op more : Bool) (after : ByteArray) (v : Value) (most : Int) (haf : after.toList.isEmpty = false) (hop : op = true → more = true ∧ gen = generation) :
    ∃ open2 F2 r2, Turn gen generation F N op after v open2 F2 gen r2 ∧ okOf open2 more most F2.length = false ∧ (∀ k, r2 = some k → v.ownBlock = some k) := by
  cases op with
  | false => exact ⟨false, F, none, .inr (.inr ⟨haf, .inl rfl, rfl, rfl, rfl, rfl⟩), by simp [okOf], fun k h => by cases h⟩
  | true =>
    obtain ⟨rfl, rfl⟩ := hop rfl
    by_cases h0 : F.length = 0
    · exact ⟨false, F, none, .inr (.inr ⟨haf, .inr (.inr (.inl ⟨rfl, rfl, h0⟩)), rfl, rfl, rfl, rfl⟩), by simp [okOf], fun k h => by cases h⟩
    · obtain ⟨m, hm⟩ : ∃ m, F.length = m + 1 := ⟨F.length - 1, by omega⟩
      by_cases hl : get F m = after
      · exact ⟨true, F ++ N, v.ownBlock, .inr (.inl ⟨haf, ⟨rfl, rfl, m, hm, hl⟩, rfl, rfl, rfl, rfl⟩), by simp [okOf], fun k h => h⟩
      · exact ⟨false, F, none, .inr (.inr ⟨haf, .inr (.inr (.inr ⟨rfl, rfl, m, hm, hl⟩)), rfl, rfl, rfl, rfl⟩), by simp [okOf], fun k h => by cases h⟩

/-- The ways of the first call, after a name. -/
theorem first_ways (gen generation : Int) (G : List ByteArray) (op : Bool) (after : ByteArray) :
    (op = true ∧ gen = generation ∧ ∃ m, G.length = m + 1 ∧ get G m = after) ∨ op = false ∨ (op = true ∧ gen ≠ generation) ∨ (op = true ∧ gen = generation ∧ G.length = 0) ∨ (op = true ∧ gen = generation ∧ ∃ m, G.length = m + 1 ∧ get G m ≠ after) := by
  cases op with
  | false => exact .inr (.inl rfl)
  | true =>
    by_cases hg : gen = generation
    · by_cases h0 : G.length = 0
      · exact .inr (.inr (.inr (.inl ⟨rfl, hg, h0⟩)))
      · obtain ⟨m, hm⟩ : ∃ m, G.length = m + 1 := ⟨G.length - 1, by omega⟩
        by_cases hl : get G m = after
        · exact .inl ⟨rfl, hg, m, hm, hl⟩
        · exact .inr (.inr (.inr (.inr ⟨rfl, hg, m, hm, hl⟩)))
    · exact .inr (.inr (.inl ⟨rfl, hg⟩))

end Go.Proofs.Qxb6602261a.Nm
