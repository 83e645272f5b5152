/- Contracts of the size guards that the delivering program laid: each answers some bool and turns nothing. -/
import Derived.Test.Qxb6602261aStrs
namespace Go.Proofs.Qxb6602261a.Nm
open Go.RowKit

/-- Some bool came back. -/
def SomeBool (e : Ending) : Prop := ∃ b, e = .returned (.bool b)

set_option maxHeartbeats 2000000 in
theorem bytes18_any (a a' : Option Addr) (n cap n' cap' : Nat) (S S' : Nat → ByteArray) (w : World) (hS : StrsAt w a n S) (hS' : StrsAt w a' n' S') (hn : n ≤ maxLen) (hn' : n' ≤ maxLen) :
    Calls Try.prog 18 #[.slice a n cap, .slice a' n' cap'] w fun e w' => SomeBool e ∧ w' = w := by
  unfold maxLen at hn hn'
  by_cases hl : n ≤ 1048576
  · go_enter Try.func18, Try.ntmps18
    go_wp2
    go_loop [5, 6] (fun t i => ∃ (k : Nat) (z : Int), k ≤ n ∧ i = .int .i64 k ∧ t = .int .i64 z ∧ 0 ≤ z ∧ z ≤ 1048576) (fun _ i => n - (intOf i).toNat)
    case atStart => exact ⟨0, _, Nat.zero_le _, rfl, rfl, by omega, by omega⟩
    case round =>
      obtain ⟨k, z, hk, rfl, rfl, hz0, hz1⟩ := hrel
      by_cases hlt : k < n
      · obtain ⟨b, o, rfl, hc⟩ := hS k hlt
        clear hS hS'
        generalize S k = s at hc
        by_cases h1 : s.size ≤ 1048576
        · by_cases h2 : z + s.size ≤ 1048576
          · go_wp2
            go_round
            case rel => exact ⟨k + 1, z + s.size, by omega, by go_num, by go_num, by omega, by omega⟩
            case measure => simp [intOf]; omega
          · go_wp2
            go_ret
            exact ⟨⟨_, rfl⟩, rfl⟩
        · go_wp2
          go_ret
          exact ⟨⟨_, rfl⟩, rfl⟩
      · clear hS
        by_cases hl' : n' ≤ 1048576
        · by_cases hl2 : z + n' ≤ 1048576
          · go_wp2
            go_loop [5, 7] (fun t i => ∃ (k : Nat) (z : Int), k ≤ n' ∧ i = .int .i64 k ∧ t = .int .i64 z ∧ 0 ≤ z ∧ z ≤ 1048576) (fun _ i => n' - (intOf i).toNat)
            case atStart => exact ⟨0, _, Nat.zero_le _, rfl, rfl, by omega, by omega⟩
            case round =>
              obtain ⟨q, y, hq, rfl, rfl, hy0, hy1⟩ := hrel
              by_cases hqt : q < n'
              · obtain ⟨b, o, rfl, hc⟩ := hS' q hqt
                clear hS'
                generalize S' q = s at hc
                by_cases h1 : s.size ≤ 1048576
                · by_cases h2 : y + s.size ≤ 1048576
                  · go_wp2
                    go_round
                    case rel => exact ⟨q + 1, y + s.size, by omega, by go_num, by go_num, by omega, by omega⟩
                    case measure => simp [intOf]; omega
                  · go_wp2
                    go_ret
                    exact ⟨⟨_, rfl⟩, rfl⟩
                · go_wp2
                  go_ret
                  exact ⟨⟨_, rfl⟩, rfl⟩
              · go_wp2
                go_ret
                exact ⟨⟨_, rfl⟩, rfl⟩
          · go_wp2
            go_ret
            exact ⟨⟨_, rfl⟩, rfl⟩
        · go_wp2
          go_ret
          exact ⟨⟨_, rfl⟩, rfl⟩
  · go_enter Try.func18, Try.ntmps18
    go_wp2
    go_ret
    exact ⟨⟨_, rfl⟩, rfl⟩

set_option maxHeartbeats 2000000 in
theorem bytes26_any (a a' : Option Addr) (n cap n' cap' : Nat) (S S' : Nat → ByteArray) (w : World) (hS : StrsAt w a n S) (hS' : StrsAt w a' n' S') (hn : n ≤ maxLen) (hn' : n' ≤ maxLen) :
    Calls Try.prog 26 #[.slice a n cap, .slice a' n' cap'] w fun e w' => SomeBool e ∧ w' = w := by
  unfold maxLen at hn hn'
  by_cases hl : n ≤ 1048576
  · go_enter Try.func26, Try.ntmps26
    go_wp2
    go_loop [5, 6] (fun t i => ∃ (k : Nat) (z : Int), k ≤ n ∧ i = .int .i64 k ∧ t = .int .i64 z ∧ 0 ≤ z ∧ z ≤ 1048576) (fun _ i => n - (intOf i).toNat)
    case atStart => exact ⟨0, _, Nat.zero_le _, rfl, rfl, by omega, by omega⟩
    case round =>
      obtain ⟨k, z, hk, rfl, rfl, hz0, hz1⟩ := hrel
      by_cases hlt : k < n
      · obtain ⟨b, o, rfl, hc⟩ := hS k hlt
        clear hS hS'
        generalize S k = s at hc
        by_cases h1 : s.size ≤ 1048576
        · by_cases h2 : z + s.size ≤ 1048576
          · go_wp2
            go_round
            case rel => exact ⟨k + 1, z + s.size, by omega, by go_num, by go_num, by omega, by omega⟩
            case measure => simp [intOf]; omega
          · go_wp2
            go_ret
            exact ⟨⟨_, rfl⟩, rfl⟩
        · go_wp2
          go_ret
          exact ⟨⟨_, rfl⟩, rfl⟩
      · clear hS
        by_cases hl' : n' ≤ 1048576
        · by_cases hl2 : z + n' ≤ 1048576
          · go_wp2
            go_loop [5, 7] (fun t i => ∃ (k : Nat) (z : Int), k ≤ n' ∧ i = .int .i64 k ∧ t = .int .i64 z ∧ 0 ≤ z ∧ z ≤ 1048576) (fun _ i => n' - (intOf i).toNat)
            case atStart => exact ⟨0, _, Nat.zero_le _, rfl, rfl, by omega, by omega⟩
            case round =>
              obtain ⟨q, y, hq, rfl, rfl, hy0, hy1⟩ := hrel
              by_cases hqt : q < n'
              · obtain ⟨b, o, rfl, hc⟩ := hS' q hqt
                clear hS'
                generalize S' q = s at hc
                by_cases h1 : s.size ≤ 1048576
                · by_cases h2 : y + s.size ≤ 1048576
                  · go_wp2
                    go_round
                    case rel => exact ⟨q + 1, y + s.size, by omega, by go_num, by go_num, by omega, by omega⟩
                    case measure => simp [intOf]; omega
                  · go_wp2
                    go_ret
                    exact ⟨⟨_, rfl⟩, rfl⟩
                · go_wp2
                  go_ret
                  exact ⟨⟨_, rfl⟩, rfl⟩
              · go_wp2
                go_ret
                exact ⟨⟨_, rfl⟩, rfl⟩
          · go_wp2
            go_ret
            exact ⟨⟨_, rfl⟩, rfl⟩
        · go_wp2
          go_ret
          exact ⟨⟨_, rfl⟩, rfl⟩
  · go_enter Try.func26, Try.ntmps26
    go_wp2
    go_ret
    exact ⟨⟨_, rfl⟩, rfl⟩

end Go.Proofs.Qxb6602261a.Nm
