import Derived.Test.Qxb6600341aSo
import Derived.Lib.Strings
import Derived.Laws.BitsAllLaws
import Derived.Laws.Closers25b
import Derived.Deep.Cut
namespace Go.Proofs.Qxb6600341a
open Go.RowKit

/-! ### what a mark keeps -/
def mk (x : Int) : Int := bits .andNot .u32 x 4095
theorem mk_bounds (x : Int) : 0 ≤ mk x ∧ mk x < 4294967296 := ⟨bits_lo_u32 _ _ _, by have := bits_hi_u32 .andNot x 4095; unfold mk; omega⟩
theorem mk_xor (x p : Int) (h0 : 0 ≤ x) (h1 : x < 4294967296) (h2 : 0 ≤ p) (h3 : p < 4294967296) :
    mk (bits .xor .u32 x (bits .and .u32 p 4095)) = mk x := by
  obtain ⟨x, rfl⟩ := Int.eq_ofNat_of_zero_le h0
  obtain ⟨p, rfl⟩ := Int.eq_ofNat_of_zero_le h2
  have e1 : bits .and .u32 (p : Int) (4095 : Int) = ((p &&& 4095 : Nat) : Int) := u32_and_nat p 4095 (by omega) (by omega)
  have l1 : (p &&& 4095) < 4294967296 := by have : p &&& 4095 ≤ 4095 := Nat.and_le_right; omega
  have e2 : bits .xor .u32 (x : Int) ((p &&& 4095 : Nat) : Int) = ((x ^^^ (p &&& 4095) : Nat) : Int) := u32_xor_nat x (p &&& 4095) (by omega) l1
  have l2 : x ^^^ (p &&& 4095) < 4294967296 := Nat.xor_lt_two_pow (n := 32) (by omega) (by omega)
  unfold mk
  rw [e1, e2]
  have e3 : bits .andNot .u32 ((x ^^^ (p &&& 4095) : Nat) : Int) (4095 : Int) = (((x ^^^ (p &&& 4095)) &&& (4294967295 - 4095) : Nat) : Int) := u32_andNot_nat _ 4095 l2 (by omega)
  have e4 : bits .andNot .u32 (x : Int) (4095 : Int) = ((x &&& (4294967295 - 4095) : Nat) : Int) := u32_andNot_nat x 4095 (by omega) (by omega)
  rw [e3, e4]
  congr 1
  rw [Nat.and_xor_distrib_right, Nat.and_assoc]
  have : (4095 &&& (4294967295 - 4095) : Nat) = 0 := by decide
  rw [this]
  simp
set_option maxHeartbeats 1000000 in
theorem marked_any (x : Int) (w : World) : Calls Try.prog 26 #[.int .u32 x] w fun e w' => e = .returned (.int .u32 (mk x)) ∧ w' = w := by
  go_enter Try.func26, Try.ntmps26
  go_wp2
  go_ret
  exact ⟨rfl, rfl⟩

/-! ### fingerprintOf -/
def fstep (h b : Int) : Int := bits .xor .u32 h (b % 4294967296) * 16777619 % 4294967296
def f1g : Nat → ByteArray → Nat → Int → Int
  | 0, _, _, h => h
  | m + 1, d, i, h => if hi : i < d.size then f1g m d (i + 1) (if ((d[i].toNat : Int) != 46) = true then fstep h d[i].toNat else h) else h
def f1 (d : ByteArray) (i : Nat) (h : Int) : Int := f1g (d.size - i) d i h
def f2g : Nat → ByteArray → Nat → Int → Int
  | 0, _, _, h => h
  | m + 1, d, i, h => if hi : i < d.size then f2g m d (i + 1) (fstep h d[i].toNat) else h
def f2 (d : ByteArray) (i : Nat) (h : Int) : Int := f2g (d.size - i) d i h
theorem f1_go (d : ByteArray) (i : Nat) (h : Int) (hi : i < d.size) (hb : ((d[i].toNat : Int) != 46) = true) : f1 d i h = f1 d (i + 1) (fstep h d[i].toNat) := by
  unfold f1
  rw [show d.size - i = (d.size - (i + 1)) + 1 by omega, f1g, dif_pos hi, if_pos hb]
theorem f1_skip (d : ByteArray) (i : Nat) (h : Int) (hi : i < d.size) (hb : ((d[i].toNat : Int) != 46) = false) : f1 d i h = f1 d (i + 1) h := by
  unfold f1
  rw [show d.size - i = (d.size - (i + 1)) + 1 by omega, f1g, dif_pos hi, if_neg (by rw [hb]; simp)]
theorem f1_end (d : ByteArray) (i : Nat) (h : Int) (hi : ¬ i < d.size) : f1 d i h = h := by
  unfold f1
  rw [show d.size - i = 0 by omega, f1g]
theorem f2_go (d : ByteArray) (i : Nat) (h : Int) (hi : i < d.size) : f2 d i h = f2 d (i + 1) (fstep h d[i].toNat) := by
  unfold f2
  rw [show d.size - i = (d.size - (i + 1)) + 1 by omega, f2g, dif_pos hi]
theorem f2_end (d : ByteArray) (i : Nat) (h : Int) (hi : ¬ i < d.size) : f2 d i h = h := by
  unfold f2
  rw [show d.size - i = 0 by omega, f2g]
def fp0 (neg : Bool) : Int := if neg then bits .xor .u32 2166136261 45 * 16777619 % 4294967296 else 2166136261
def fp (neg : Bool) (dig exp : ByteArray) : Int := f2 exp 0 (bits .xor .u32 (f1 dig 0 (fp0 neg)) 101 * 16777619 % 4294967296)
theorem f1_bounds (d : ByteArray) : ∀ (m i : Nat) (h : Int), d.size - i ≤ m → 0 ≤ h → h < 4294967296 → 0 ≤ f1 d i h ∧ f1 d i h < 4294967296 := by
  intro m
  induction m with
  | zero => intro i h hm h0 h1; rw [f1_end _ _ _ (by omega)]; exact ⟨h0, h1⟩
  | succ m ih =>
    intro i h hm h0 h1
    by_cases hi : i < d.size
    · cases hb : ((d[i].toNat : Int) != 46)
      · rw [f1_skip _ _ _ hi hb]; exact ih _ _ (by omega) h0 h1
      · rw [f1_go _ _ _ hi hb]; exact ih _ _ (by omega) (by unfold fstep; omega) (by unfold fstep; omega)
    · rw [f1_end _ _ _ hi]; exact ⟨h0, h1⟩
theorem f2_bounds (d : ByteArray) : ∀ (m i : Nat) (h : Int), d.size - i ≤ m → 0 ≤ h → h < 4294967296 → 0 ≤ f2 d i h ∧ f2 d i h < 4294967296 := by
  intro m
  induction m with
  | zero => intro i h hm h0 h1; rw [f2_end _ _ _ (by omega)]; exact ⟨h0, h1⟩
  | succ m ih =>
    intro i h hm h0 h1
    by_cases hi : i < d.size
    · rw [f2_go _ _ _ hi]; exact ih _ _ (by omega) (by unfold fstep; omega) (by unfold fstep; omega)
    · rw [f2_end _ _ _ hi]; exact ⟨h0, h1⟩
theorem fp_bounds (neg : Bool) (dig exp : ByteArray) : 0 ≤ fp neg dig exp ∧ fp neg dig exp < 4294967296 :=
  f2_bounds exp _ 0 _ (Nat.le_refl _) (by omega) (by omega)

set_option maxHeartbeats 2000000 in
theorem fp_any (neg : Bool) (dig exp : ByteArray) (w : World) (h0 : dig.size ≤ 1048576) (h1 : exp.size ≤ 1048576) : Calls Try.prog 30 #[.bool neg, .string dig, .string exp] w fun e w' => e = .returned (.int .u32 (fp neg dig exp)) ∧ w' = w := by
  go_enter Try.func30, Try.ntmps30
  go_upto_if 10 with fail
  go_cut [7] from 11 (fun s7 wc => s7 = .int .u32 (fp0 neg) ∧ wc = w)
  case first =>
    cases neg <;> (go_wp2; go_meet; exact ⟨rfl, rfl⟩)
  case rest =>
    obtain ⟨rfl, rfl⟩ := hcut
    go_wp2
    go_loopw [7, 16] (fun vh vi wr => ∃ (h : Int) (i : Nat), vh = .int .u32 h ∧ vi = .int .i64 i ∧ i ≤ dig.size ∧ wr = wc ∧ f1 dig i h = f1 dig 0 (fp0 neg)) (fun _ vi _ => dig.size - (intOf vi).toNat)
    case atStart => exact ⟨_, 0, rfl, rfl, Nat.zero_le _, rfl, rfl⟩
    case round =>
      obtain ⟨h, i, rfl, rfl, hi, rfl, hf⟩ := hrel
      have HF := hide hf
      clear hf
      by_cases hlt : i < dig.size
      · go_wp2
        · rename_i hb
          go_roundw
          case rel => exact ⟨_, i + 1, rfl, by go_num, by omega, trivial, by rw [← HF.out, f1_go _ _ _ hlt hb]; rfl⟩
          case measure => simp [intOf]; omega
        · rename_i hb
          go_roundw
          case rel => exact ⟨_, i + 1, rfl, by go_num, by omega, trivial, by rw [← HF.out, f1_skip _ _ _ hlt hb]⟩
          case measure => simp [intOf]; omega
      · have HH : Hid (h = f1 dig 0 (fp0 neg)) := by rw [← HF.out, f1_end _ _ _ hlt]; exact rfl
        go_wp2
        go_loopw [7, 36] (fun vh vi wr2 => ∃ (h2 : Int) (i : Nat), vh = .int .u32 h2 ∧ vi = .int .i64 i ∧ i ≤ exp.size ∧ wr2 = wr ∧ f2 exp i h2 = fp neg dig exp) (fun _ vi _ => exp.size - (intOf vi).toNat)
        case atStart => exact ⟨_, 0, rfl, rfl, Nat.zero_le _, rfl, by rw [HH.out]; rfl⟩
        case round =>
          obtain ⟨h2, k, rfl, rfl, hk, rfl, hf2⟩ := hrel
          have HF2 := hide hf2
          clear hf2
          by_cases hlt2 : k < exp.size
          · go_wp2
            go_roundw
            case rel => exact ⟨_, k + 1, rfl, by go_num, by omega, trivial, by rw [← HF2.out, f2_go _ _ _ hlt2]; rfl⟩
            case measure => simp [intOf]; omega
          · go_wp2
            go_ret
            exact ⟨congrArg Ending.returned (val_int (by rw [← HF2.out, f2_end _ _ _ hlt2])), rfl⟩

/-! ### decimal.fingerprint: its receiver is laid in a block of its own -/
set_option maxHeartbeats 1000000 in
theorem fpd_any (neg : Bool) (dig exp : ByteArray) (w : World) (h0 : dig.size ≤ 1048576) (h1 : exp.size ≤ 1048576) :
    Calls Try.prog 25 #[.agg #[.bool neg, .string dig, .string exp]] w fun e w' => e = .returned (.int .u32 (fp neg dig exp)) ∧ ∃ o, w' = w.alloc o := by
  go_enter Try.func25, Try.ntmps25
  go_wp2_with (go_at_call 30; refine (fp_any neg dig exp _ h0 h1).mono ?_; rintro e w' ⟨rfl, rfl⟩)
  go_ret
  exact ⟨rfl, _, rfl⟩
end Go.Proofs.Qxb6600341a
