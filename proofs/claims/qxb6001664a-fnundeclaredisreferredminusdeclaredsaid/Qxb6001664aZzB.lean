import Derived.Test.Qxb6001664aBase
namespace Go.Proofs.Qxb6001664a
open Go.RowKit

set_option maxHeartbeats 2000000 in
theorem zzBytesB_any (a b c : Option Addr) (cap capb capc : Nat) (ss tt uu : List ByteArray) (x : ByteArray) (w : World) (hr : Row w a ss) (hr2 : Row w b tt) (hr3 : Row w c uu) (hl : ss.length ≤ maxLen) (hl2 : tt.length ≤ maxLen) (hl3 : uu.length ≤ maxLen) :
    Calls Try.prog 18 #[.slice a ss.length cap, .slice b tt.length capb, .slice c uu.length capc, .string x] w fun e w' => AnyBool e ∧ w' = w := by
  unfold maxLen at hl hl2 hl3
  by_cases h1 : ss.length ≤ 1048576
  · go_enter Try.func18, Try.ntmps18
    go_wp2
    go_loop [9, 10] (fun v i => ∃ (k : Nat) (n : Int), k ≤ ss.length ∧ i = .int .i64 k ∧ v = .int .i64 n) (fun _ i => ss.length - (intOf i).toNat)
    case atStart => exact ⟨0, _, Nat.zero_le _, rfl, rfl⟩
    case round =>
      obtain ⟨kss, nss, hkss, rfl, rfl⟩ := hrel
      by_cases hltss : kss < ss.length
      · obtain ⟨bb, off, s, rfl, hs, hc⟩ := hr.get hltss
        clear hs
        go_wp2
        · go_ret
          exact ⟨anyBool _, rfl⟩
        · go_ret
          exact ⟨anyBool _, rfl⟩
        · go_round
          case rel => exact ⟨kss + 1, _, by omega, by go_num, rfl⟩
          case measure => simp [intOf]; omega
      · by_cases h2 : tt.length ≤ 1048576
        · go_wp2
          · go_ret
            exact ⟨anyBool _, rfl⟩
          · go_loop [9, 11] (fun v i => ∃ (k : Nat) (n : Int), k ≤ tt.length ∧ i = .int .i64 k ∧ v = .int .i64 n) (fun _ i => tt.length - (intOf i).toNat)
            case atStart => exact ⟨0, _, Nat.zero_le _, rfl, rfl⟩
            case round =>
              obtain ⟨ktt, ntt, hktt, rfl, rfl⟩ := hrel
              by_cases hlttt : ktt < tt.length
              · obtain ⟨bb, off, s, rfl, hs, hc⟩ := hr2.get hlttt
                clear hs
                go_wp2
                · go_ret
                  exact ⟨anyBool _, rfl⟩
                · go_ret
                  exact ⟨anyBool _, rfl⟩
                · go_round
                  case rel => exact ⟨ktt + 1, _, by omega, by go_num, rfl⟩
                  case measure => simp [intOf]; omega
              · by_cases h3 : uu.length ≤ 1048576
                · go_wp2
                  · go_ret
                    exact ⟨anyBool _, rfl⟩
                  · go_loop [9, 12] (fun v i => ∃ (k : Nat) (n : Int), k ≤ uu.length ∧ i = .int .i64 k ∧ v = .int .i64 n) (fun _ i => uu.length - (intOf i).toNat)
                    case atStart => exact ⟨0, _, Nat.zero_le _, rfl, rfl⟩
                    case round =>
                      obtain ⟨kuu, nuu, hkuu, rfl, rfl⟩ := hrel
                      by_cases hltuu : kuu < uu.length
                      · obtain ⟨bb, off, s, rfl, hs, hc⟩ := hr3.get hltuu
                        clear hs
                        go_wp2
                        · go_ret
                          exact ⟨anyBool _, rfl⟩
                        · go_ret
                          exact ⟨anyBool _, rfl⟩
                        · go_round
                          case rel => exact ⟨kuu + 1, _, by omega, by go_num, rfl⟩
                          case measure => simp [intOf]; omega
                      · go_wp2
                        all_goals
                          go_ret
                          exact ⟨anyBool _, rfl⟩
                · go_wp2
                  go_ret
                  exact ⟨anyBool _, rfl⟩
        · go_wp2
          go_ret
          exact ⟨anyBool _, rfl⟩
  · go_enter Try.func18, Try.ntmps18
    go_wp2
    go_ret
    exact ⟨anyBool _, rfl⟩
end Go.Proofs.Qxb6001664a
