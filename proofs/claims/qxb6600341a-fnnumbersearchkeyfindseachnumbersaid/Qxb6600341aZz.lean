import Derived.Test.Qxb6600341aRow
namespace Go.Proofs.Qxb6600341a
open Go.RowKit

/-- a bool comes back; where it is true the strings are short -/
def Short (ld le : Nat) (D E : Nat → ByteArray) (e : Ending) : Prop :=
  ∃ r, e = .returned (.bool r) ∧ (r = true → (∀ i, i < ld → (D i).size ≤ 1048576) ∧ ∀ i, i < le → (E i).size ≤ 1048576)
theorem short_false (ld le : Nat) (D E : Nat → ByteArray) : Short ld le D E (.returned (.bool false)) := ⟨false, rfl, fun h => by cases h⟩

set_option maxHeartbeats 2000000 in
theorem zzBytes_any (aN aD aE aF : Option Addr) (cN cD cE cF ln ld le lf : Nat) (D E : Nat → ByteArray) (p : Int) (w : World)
    (hD : Row w aD ld fun i => .string (D i)) (hE : Row w aE le fun i => .string (E i)) :
    Calls Try.prog 10 #[.slice aN ln cN, .slice aD ld cD, .slice aE le cE, .slice aF lf cF, .int .u32 p] w fun e w' => Short ld le D E e ∧ w' = w := by
  go_enter Try.func10, Try.ntmps10
  by_cases h1 : ln ≤ 1048576
  · by_cases h2 : ld ≤ 1048576
    · by_cases h3 : ln + ld ≤ 1048576
      · go_wp2
        go_loop [11, 12] (fun v i => ∃ (k s : Nat), k ≤ ld ∧ i = .int .i64 k ∧ v = .int .i64 s ∧ s ≤ 1048576 ∧ ∀ j, j < k → (D j).size ≤ 1048576) (fun _ i => ld - (intOf i).toNat)
        case atStart => exact ⟨0, ln + ld, Nat.zero_le _, rfl, by go_num, h3, fun j hj => by omega⟩
        case round =>
          obtain ⟨k, s, hk, rfl, rfl, hs, hj⟩ := hrel
          by_cases hlt : k < ld
          · obtain ⟨b, off, rfl, hc⟩ := hD.get hlt
            obtain ⟨d, hd⟩ : ∃ d, d = D k := ⟨_, rfl⟩
            rw [← hd] at hc
            have HD := hide hd
            have HJ := hide hj
            clear hd hj
            by_cases h4 : d.size ≤ 1048576
            · by_cases h5 : s + d.size ≤ 1048576
              · go_wp2
                go_round
                case rel => exact ⟨k + 1, s + d.size, by omega, by go_num, by go_num, h5, fun j hj => by
                  by_cases h : j = k
                  · subst h; rw [← HD.out]; exact h4
                  · exact HJ.out j (by omega)⟩
                case measure => simp [intOf]; omega
              · go_wp2
                go_ret
                exact ⟨short_false _ _ _ _, rfl⟩
            · go_wp2
              go_ret
              exact ⟨short_false _ _ _ _, rfl⟩
          · obtain rfl : k = ld := by omega
            have HJ := hide hj
            clear hj
            by_cases h4 : le ≤ 1048576
            · by_cases h5 : s + le ≤ 1048576
              · go_wp2
                go_loop [11, 13] (fun v i => ∃ (m t : Nat), m ≤ le ∧ i = .int .i64 m ∧ v = .int .i64 t ∧ t ≤ 1048576 ∧ ∀ j, j < m → (E j).size ≤ 1048576) (fun _ i => le - (intOf i).toNat)
                case atStart => exact ⟨0, s + le, Nat.zero_le _, rfl, by go_num, h5, fun j hj => by omega⟩
                case round =>
                  obtain ⟨m, t, hm, rfl, rfl, ht, hj2⟩ := hrel
                  by_cases hlt2 : m < le
                  · obtain ⟨b, off, rfl, hc⟩ := hE.get hlt2
                    obtain ⟨d, hd⟩ : ∃ d, d = E m := ⟨_, rfl⟩
                    rw [← hd] at hc
                    have HD := hide hd
                    have HJ2 := hide hj2
                    clear hd hj2
                    by_cases h6 : d.size ≤ 1048576
                    · by_cases h7 : t + d.size ≤ 1048576
                      · go_wp2
                        go_round
                        case rel => exact ⟨m + 1, t + d.size, by omega, by go_num, by go_num, h7, fun j hj => by
                          by_cases h : j = m
                          · subst h; rw [← HD.out]; exact h6
                          · exact HJ2.out j (by omega)⟩
                        case measure => simp [intOf]; omega
                      · go_wp2
                        go_ret
                        exact ⟨short_false _ _ _ _, rfl⟩
                    · go_wp2
                      go_ret
                      exact ⟨short_false _ _ _ _, rfl⟩
                  · obtain rfl : m = le := by omega
                    have HJ2 := hide hj2
                    clear hj2
                    by_cases h6 : lf ≤ 1048576
                    · by_cases h7 : t + lf ≤ 1048576
                      · go_wp2
                        go_ret
                        exact ⟨⟨true, rfl, fun _ => ⟨HJ.out, HJ2.out⟩⟩, rfl⟩
                      · go_wp2
                        go_ret
                        exact ⟨short_false _ _ _ _, rfl⟩
                    · go_wp2
                      go_ret
                      exact ⟨short_false _ _ _ _, rfl⟩
              · go_wp2
                go_ret
                exact ⟨short_false _ _ _ _, rfl⟩
            · go_wp2
              go_ret
              exact ⟨short_false _ _ _ _, rfl⟩
      · go_wp2
        go_ret
        exact ⟨short_false _ _ _ _, rfl⟩
    · go_wp2
      go_ret
      exact ⟨short_false _ _ _ _, rfl⟩
  · go_wp2
    go_ret
    exact ⟨short_false _ _ _ _, rfl⟩

def AnyInt (e : Ending) : Prop := ∃ r, e = .returned (.int .i64 r)

set_option maxHeartbeats 2000000 in
theorem zzSearch_any (aN aD aE aF : Option Addr) (cN cD cE cF ln ld le lf : Nat) (D E : Nat → ByteArray) (w : World)
    (hD : Row w aD ld fun i => .string (D i)) (hE : Row w aE le fun i => .string (E i)) (hd : ld ≤ 65536) (he : le ≤ 65536) :
    Calls Try.prog 11 #[.slice aN ln cN, .slice aD ld cD, .slice aE le cE, .slice aF lf cF] w fun e w' => AnyInt e ∧ w' = w := by
  go_enter Try.func11, Try.ntmps11
  go_wp2
  go_loop [9, 10] (fun v i => ∃ (k : Nat) (s : Int), k ≤ ld ∧ i = .int .i64 k ∧ v = .int .i64 s) (fun _ i => ld - (intOf i).toNat)
  case atStart => exact ⟨0, _, Nat.zero_le _, rfl, rfl⟩
  case round =>
    obtain ⟨k, s, hk, rfl, rfl⟩ := hrel
    by_cases hlt : k < ld
    · obtain ⟨b, off, rfl, hc⟩ := hD.get hlt
      go_wp2
      go_round
      case rel => exact ⟨k + 1, _, by omega, by go_num, rfl⟩
      case measure => simp [intOf]; omega
    · go_wp2
      go_loop [9, 11] (fun v i => ∃ (k : Nat) (s : Int), k ≤ le ∧ i = .int .i64 k ∧ v = .int .i64 s) (fun _ i => le - (intOf i).toNat)
      case atStart => exact ⟨0, _, Nat.zero_le _, rfl, rfl⟩
      case round =>
        obtain ⟨m, t, hm, rfl, rfl⟩ := hrel
        by_cases hlt2 : m < le
        · obtain ⟨b, off, rfl, hc⟩ := hE.get hlt2
          go_wp2
          go_round
          case rel => exact ⟨m + 1, _, by omega, by go_num, rfl⟩
          case measure => simp [intOf]; omega
        · go_wp2
          go_ret
          exact ⟨⟨_, rfl⟩, rfl⟩
end Go.Proofs.Qxb6600341a
