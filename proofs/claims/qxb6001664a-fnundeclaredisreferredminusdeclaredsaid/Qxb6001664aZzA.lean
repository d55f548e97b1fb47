import Derived.Test.Qxb6001664aBase
namespace Go.Proofs.Qxb6001664a
open Go.RowKit

set_option maxHeartbeats 1000000 in
theorem zzBytesA_any (a b : Option Addr) (cap capb : Nat) (ss tt : List ByteArray) (w : World) (hr : Row w a ss) (hr2 : Row w b tt) (hl : ss.length ≤ maxLen) (hl2 : tt.length ≤ maxLen) :
    Calls Try.prog 11 #[.slice a ss.length cap, .slice b tt.length capb] w fun e w' => AnyBool e ∧ w' = w := by
  unfold maxLen at hl hl2
  by_cases h1 : ss.length ≤ 1048576
  · go_enter Try.func11, Try.ntmps11
    go_wp2
    go_loop [5, 6] (fun v i => ∃ (k : Nat) (n : Int), k ≤ ss.length ∧ i = .int .i64 k ∧ v = .int .i64 n) (fun _ i => ss.length - (intOf i).toNat)
    case atStart => exact ⟨0, _, Nat.zero_le _, rfl, rfl⟩
    case round =>
      obtain ⟨k, n, hk, rfl, rfl⟩ := hrel
      by_cases hlt : k < ss.length
      · obtain ⟨bb, off, s, rfl, hs, hc⟩ := hr.get hlt
        clear hs
        go_wp2
        · go_ret
          exact ⟨anyBool _, rfl⟩
        · go_ret
          exact ⟨anyBool _, rfl⟩
        · go_round
          case rel => exact ⟨k + 1, _, by omega, by go_num, rfl⟩
          case measure => simp [intOf]; omega
      · by_cases h2 : tt.length ≤ 1048576
        · go_wp2
          · go_ret
            exact ⟨anyBool _, rfl⟩
          · go_loop [5, 7] (fun v i => ∃ (k : Nat) (n : Int), k ≤ tt.length ∧ i = .int .i64 k ∧ v = .int .i64 n) (fun _ i => tt.length - (intOf i).toNat)
            case atStart => exact ⟨0, _, Nat.zero_le _, rfl, rfl⟩
            case round =>
              obtain ⟨k2, n2, hk2, rfl, rfl⟩ := hrel
              by_cases hlt2 : k2 < tt.length
              · obtain ⟨bb, off, s, rfl, hs, hc⟩ := hr2.get hlt2
                clear hs
                go_wp2
                · go_ret
                  exact ⟨anyBool _, rfl⟩
                · go_ret
                  exact ⟨anyBool _, rfl⟩
                · go_round
                  case rel => exact ⟨k2 + 1, _, by omega, by go_num, rfl⟩
                  case measure => simp [intOf]; omega
              · go_wp2
                all_goals
                  go_ret
                  exact ⟨anyBool _, rfl⟩
        · go_wp2
          go_ret
          exact ⟨anyBool _, rfl⟩
  · go_enter Try.func11, Try.ntmps11
    go_wp2
    go_ret
    exact ⟨anyBool _, rfl⟩
end Go.Proofs.Qxb6001664a
