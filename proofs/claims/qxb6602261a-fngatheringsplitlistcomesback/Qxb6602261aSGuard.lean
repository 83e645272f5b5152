/- The guard of FnGatheringSplitListComesBack: it answers some bool and turns nothing. -/
import Derived.Test.Qxb6602261aParts
namespace Go.Proofs.Qxb6602261a.Nm
open Go.RowKit

set_option maxHeartbeats 4000000 in
set_option maxRecDepth 100000 in
theorem bytes33_any (x0 x3 most : Int) (b2 : Bool) (a a' : Option Addr) (n cap n' cap' : Nat) (S : Nat → ByteArray) (A : Nat → Option Addr) (K C : Nat → Nat) (P : Nat → List ByteArray) (w : World) (hS : StrsAt w a n S) (hP : PAt w a' n' A K C P) (hn : n ≤ maxLen) (hn' : n' ≤ maxLen) :
    Calls Try.prog 33 #[.int .u64 x0, .slice a n cap, .bool b2, .int .u64 x3, .slice a' n' cap', .int .i64 most] w fun e w' => SomeBool e ∧ w' = w := by
  have HP : Hid (PAt w a' n' A K C P) := hP
  clear hP
  unfold maxLen at hn hn'
  by_cases hl : n ≤ 1048576
  case neg =>
    go_enter Try.func33, Try.ntmps33
    go_wp2
    go_ret
    exact ⟨⟨_, rfl⟩, rfl⟩
  go_enter Try.func33, Try.ntmps33
  go_wp2
  go_loop [13, 14] (fun t i => ∃ (k : Nat) (z : Int), k ≤ n ∧ i = .int .i64 k ∧ t = .int .i64 z ∧ 0 ≤ z ∧ z ≤ 1048576) (fun _ i => n - (intOf i).toNat)
  case atStart => exact ⟨0, _, Nat.zero_le _, rfl, rfl, by omega, by omega⟩
  case round =>
    obtain ⟨k, z, hk, rfl, rfl, hz0, hz1⟩ := hrel
    by_cases hlt : k < n
    · obtain ⟨b, o, rfl, hc⟩ := hS k hlt
      clear hS
      generalize S k = s at hc
      by_cases h1 : s.size ≤ 1048576
      · by_cases h2 : z + s.size ≤ 1048576
        · go_wp2
          go_round
          case rel => exact ⟨k + 1, z + s.size, by omega, by go_num, by go_num, by omega, by omega⟩
          case measure => simp [intOf]; omega
        · go_wp2
          go_ret
          exact ⟨⟨_, rfl⟩, rfl⟩
      · go_wp2
        go_ret
        exact ⟨⟨_, rfl⟩, rfl⟩
    · clear hS
      by_cases hl' : n' ≤ 1048576
      case neg =>
        go_wp2
        go_ret
        exact ⟨⟨_, rfl⟩, rfl⟩
      by_cases hl2 : z + n' ≤ 1048576
      case neg =>
        go_wp2
        go_ret
        exact ⟨⟨_, rfl⟩, rfl⟩
      go_wp2
      go_loop [13, 15] (fun t i => ∃ (k : Nat) (z : Int), k ≤ n' ∧ i = .int .i64 k ∧ t = .int .i64 z ∧ 0 ≤ z ∧ z ≤ 1048576) (fun _ i => n' - (intOf i).toNat)
      case atStart => exact ⟨0, _, Nat.zero_le _, rfl, rfl, by omega, by omega⟩
      case round =>
        obtain ⟨q, y, hq, rfl, rfl, hy0, hy1⟩ := hrel
        by_cases hqt : q < n'
        · obtain ⟨b, o, rfl, hc⟩ := HP.out.cell q hqt
          obtain ⟨_, hsq, hkq, _⟩ := HP.out.strs q hqt
          unfold maxLen at hkq
          generalize A q = aq at hc hsq
          generalize hkk : K q = kq at hc hsq hkq
          generalize C q = cq at hc
          generalize get (P q) = Sq at hsq
          clear hkk
          by_cases h1 : kq ≤ 1048576
          case neg =>
            clear hsq
            go_wp2
            go_ret
            exact ⟨⟨_, rfl⟩, rfl⟩
          by_cases h2 : y + kq ≤ 1048576
          case neg =>
            clear hsq
            go_wp2
            go_ret
            exact ⟨⟨_, rfl⟩, rfl⟩
          go_wp2
          go_loop [13, 16] (fun t i => ∃ (k : Nat) (z : Int), k ≤ kq ∧ i = .int .i64 k ∧ t = .int .i64 z ∧ 0 ≤ z ∧ z ≤ 1048576) (fun _ i => kq - (intOf i).toNat)
          case atStart => exact ⟨0, _, Nat.zero_le _, rfl, rfl, by omega, by omega⟩
          case round =>
            obtain ⟨r, x, hr, rfl, rfl, hx0, hx1⟩ := hrel
            by_cases hrt : r < kq
            · obtain ⟨b1, o1, rfl, hc1⟩ := hsq r hrt
              clear hsq
              generalize Sq r = s at hc1
              by_cases g1 : s.size ≤ 1048576
              · by_cases g2 : x + s.size ≤ 1048576
                · go_wp2
                  go_round
                  case rel => exact ⟨r + 1, x + s.size, by omega, by go_num, by go_num, by omega, by omega⟩
                  case measure => simp [intOf]; omega
                · go_wp2
                  go_ret
                  exact ⟨⟨_, rfl⟩, rfl⟩
              · go_wp2
                go_ret
                exact ⟨⟨_, rfl⟩, rfl⟩
            · clear hsq
              go_wp2
              go_round
              case rel => exact ⟨q + 1, x, by omega, by go_num, rfl, by omega, by omega⟩
              case measure => simp [intOf]; omega
        · go_wp2
          go_ret
          exact ⟨⟨_, rfl⟩, rfl⟩

end Go.Proofs.Qxb6602261a.Nm
