import Derived.Test.Qxb6002381aBase
namespace Go.Proofs.Qxb6002381a
open Go.RowKit

set_option maxHeartbeats 1000000 in
theorem lawDistinct_any (a b : Option Addr) (cap capb : Nat) (ss tt : List ByteArray) (w : World) (hr : Row w a ss) (hr2 : Row w b tt) (hl : ss.length ≤ 4096) (hl2 : tt.length ≤ 4096) (hc1 : ss.length ≤ cap) (hc2 : tt.length ≤ capb) :
    Calls Try.prog 15 #[.slice a ss.length cap, .slice b tt.length capb] w fun e w' => e = .returned (.int .i64 ((d1 ss ss.length + d2 ss tt tt.length : Nat) : Int)) ∧ Dr w w' := by
  go_enter Try.func15, Try.ntmps15
  go_wp2
  go_loopw [5, 6] (fun v i wr => ∃ k : Nat, k ≤ ss.length ∧ i = .int .i64 k ∧ v = .int .i64 (d1 ss k : Nat) ∧ Dr w wr) (fun _ i _ => ss.length - (intOf i).toNat)
  case atStart => exact ⟨0, Nat.zero_le _, rfl, rfl, Dr.refl _⟩
  case round =>
    obtain ⟨k, hk, rfl, rfl, hdr⟩ := hrel
    have hd := d1_le ss k
    have hra := hr.dr hdr
    have hrb := hr2.dr hdr
    by_cases hlt : k < ss.length
    · obtain ⟨bb, off, s, rfl, hs, hc⟩ := hra.at hlt
      have HD := d1_succ ss k
      rw [← hs] at HD
      have Hd : Hid (d1 ss (k + 1) = d1 ss k + if inB (ss.take k) s then 0 else 1) := HD
      clear hs HD
      have hkc : (k : Int) ≤ (cap : Int) := by omega
      go_wp2
      go_quiet ((go_at_call 17; exact Calls.quiet_of_same (lawIn_len _ k cap (ss.take k) s _ ((hra.drewN _).take k) (by simp; omega) (by simp; omega))))
      go_wp2
      · have hz : inB (ss.take k) s = false := by simpa using ‹(!inB (List.take k ss) s) = true›
        go_roundw
        case rel => exact ⟨k + 1, by omega, by go_num, val_int (by rw [Hd.out, hz]; simp), hdr.on _⟩
        case measure => simp [intOf]; omega
      · have hz : inB (ss.take k) s = true := by simpa using ‹(!inB (List.take k ss) s) = false›
        go_roundw
        case rel => exact ⟨k + 1, by omega, by go_num, val_int (by rw [Hd.out, hz]; simp), hdr.on _⟩
        case measure => simp [intOf]; omega
    · obtain rfl : k = ss.length := by omega
      go_wp2
      go_loopw [5, 7] (fun v i wr => ∃ k : Nat, k ≤ tt.length ∧ i = .int .i64 k ∧ v = .int .i64 ((d1 ss ss.length + d2 ss tt k : Nat) : Int) ∧ Dr w wr) (fun _ i _ => tt.length - (intOf i).toNat)
      case atStart => exact ⟨0, Nat.zero_le _, rfl, rfl, hdr⟩
      case round =>
        clear hdr hra hrb
        obtain ⟨k, hk, rfl, rfl, hdr⟩ := hrel
        have hd2 := d2_le ss tt k
        have hra := hr.dr hdr
        have hrb := hr2.dr hdr
        by_cases hlt : k < tt.length
        · obtain ⟨bb, off, s, rfl, hs, hc⟩ := hrb.at hlt
          have HD := d2_succ ss tt k
          rw [← hs] at HD
          have Hd : Hid (d2 ss tt (k + 1) = d2 ss tt k + if inB ss s || inB (tt.take k) s then 0 else 1) := HD
          clear hs HD
          have hkc : (k : Int) ≤ (capb : Int) := by omega
          cases hin : inB ss s
          · go_wp2
            go_quiet ((first | (go_at_call_of 17 (Value.slice a ss.length cap); exact Calls.quiet_of_same (lawIn_r a _ cap ss s false _ (hra.drewN _) hl rfl hin)) | (go_at_call_of 17 (Value.slice (some ⟨bb, off, none⟩) k capb); exact Calls.quiet_of_same (lawIn_len _ k capb (tt.take k) s _ ((hrb.drewN _).take k) (by simp; omega) (by simp; omega)))))
            go_wp2
            · have hz : inB (tt.take k) s = false := by simpa using ‹(!inB (List.take k tt) s) = true›
              go_roundw
              case rel => exact ⟨k + 1, by omega, by go_num, val_int (by rw [Hd.out, hin, hz]; simp; omega), hdr.on _⟩
              case measure => simp [intOf]; omega
            · have hz : inB (tt.take k) s = true := by simpa using ‹(!inB (List.take k tt) s) = false›
              go_roundw
              case rel => exact ⟨k + 1, by omega, by go_num, val_int (by rw [Hd.out, hin, hz]; simp), hdr.on _⟩
              case measure => simp [intOf]; omega
          · go_wp2
            go_quiet ((first | (go_at_call_of 17 (Value.slice a ss.length cap); exact Calls.quiet_of_same (lawIn_r a _ cap ss s true _ (hra.drewN _) hl rfl hin))))
            go_wp2
            go_roundw
            case rel => exact ⟨k + 1, by omega, by go_num, val_int (by rw [Hd.out, hin]; simp), hdr.on _⟩
            case measure => simp [intOf]; omega
        · obtain rfl : k = tt.length := by omega
          go_wp2
          go_ret
          exact ⟨rfl, hdr⟩
end Go.Proofs.Qxb6002381a
