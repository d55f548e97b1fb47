import Derived.Test.Qxb6600341aSo
import Derived.Lib.Strings
import Derived.Lib.Slices
import Derived.Lib.Small
import Derived.Lib.Walk
import Derived.Lib.BitFns
namespace Go.Proofs.Qxb6600341a
open Go.RowKit

theorem tab_eq (i : Int) (h0 : 0 ≤ i) (h1 : i ≤ 255) (h : i.toNat < Lib.len8tab.size) : ((Lib.len8tab[i.toNat]'h).toNat : Int) = (Lib.bitLen i.toNat : Int) := by
  rw [← Lib.len8_of i h0 h1]
  simp only [Lib.len8, ByteArray.getElem?_lt' _ _ h, Option.getD_some]

theorem wrap64_two (k L : Nat) (l : L ≤ 8) (hk : k ≤ 56) : wrap64 ((k : Int) + wrap64 (L : Int)) = ((k + L : Nat) : Int) := by
  unfold wrap64; omega

set_option maxHeartbeats 4000000 in
set_option maxRecDepth 100000 in
theorem len64_any (x : Int) (w : World) (h0 : 0 ≤ x) (h1 : x ≤ 18446744073709551615) :
    Calls Try.prog 45 #[.int .u64 x] w fun e w' => e = .returned (.int .i64 (Lib.bitLen x.toNat)) ∧ w' = w := by
  go_enter Try.func45, Try.ntmps45
  go_wp2
  all_goals first
    | (rename_i h; exact absurd ⟨by omega, by rw [Lib.len8tab_size]; omega⟩ h)
    | skip
  · go_ret
    refine ⟨congrArg Ending.returned (congrArg (Value.int IntKind.i64) ?_), rfl⟩
    have s := Lib.bitLen_shift56 x.toNat (by omega) (by omega)
    have e : (x / 4294967296 / 65536 / 256).toNat = x.toNat / 72057594037927936 := by omega
    have l := Lib.bitLen_le8' (x / 4294967296 / 65536 / 256) (by omega) (by omega)
    rw [tab_eq (x / 4294967296 / 65536 / 256) (by omega) (by omega), s]
    rw [e] at l ⊢
    exact wrap64_two 56 _ l (by decide)
  · go_ret
    refine ⟨congrArg Ending.returned (congrArg (Value.int IntKind.i64) ?_), rfl⟩
    have s := Lib.bitLen_shift48 x.toNat (by omega) (by omega)
    have e : (x / 4294967296 / 65536).toNat = x.toNat / 281474976710656 := by omega
    have l := Lib.bitLen_le8' (x / 4294967296 / 65536) (by omega) (by omega)
    rw [tab_eq (x / 4294967296 / 65536) (by omega) (by omega), s]
    rw [e] at l ⊢
    exact wrap64_two 48 _ l (by decide)
  · go_ret
    refine ⟨congrArg Ending.returned (congrArg (Value.int IntKind.i64) ?_), rfl⟩
    have s := Lib.bitLen_shift40 x.toNat (by omega) (by omega)
    have e : (x / 4294967296 / 256).toNat = x.toNat / 1099511627776 := by omega
    have l := Lib.bitLen_le8' (x / 4294967296 / 256) (by omega) (by omega)
    rw [tab_eq (x / 4294967296 / 256) (by omega) (by omega), s]
    rw [e] at l ⊢
    exact wrap64_two 40 _ l (by decide)
  · go_ret
    refine ⟨congrArg Ending.returned (congrArg (Value.int IntKind.i64) ?_), rfl⟩
    have s := Lib.bitLen_shift32 x.toNat (by omega) (by omega)
    have e : (x / 4294967296).toNat = x.toNat / 4294967296 := by omega
    have l := Lib.bitLen_le8' (x / 4294967296) (by omega) (by omega)
    rw [tab_eq (x / 4294967296) (by omega) (by omega), s]
    rw [e] at l ⊢
    exact wrap64_two 32 _ l (by decide)
  · go_ret
    refine ⟨congrArg Ending.returned (congrArg (Value.int IntKind.i64) ?_), rfl⟩
    have s := Lib.bitLen_shift24 x.toNat (by omega) (by omega)
    have e : (x / 65536 / 256).toNat = x.toNat / 16777216 := by omega
    have l := Lib.bitLen_le8' (x / 65536 / 256) (by omega) (by omega)
    rw [tab_eq (x / 65536 / 256) (by omega) (by omega), s]
    rw [e] at l ⊢
    exact wrap64_two 24 _ l (by decide)
  · go_ret
    refine ⟨congrArg Ending.returned (congrArg (Value.int IntKind.i64) ?_), rfl⟩
    have s := Lib.bitLen_shift16 x.toNat (by omega) (by omega)
    have e : (x / 65536).toNat = x.toNat / 65536 := by omega
    have l := Lib.bitLen_le8' (x / 65536) (by omega) (by omega)
    rw [tab_eq (x / 65536) (by omega) (by omega), s]
    rw [e] at l ⊢
    exact wrap64_two 16 _ l (by decide)
  · go_ret
    refine ⟨congrArg Ending.returned (congrArg (Value.int IntKind.i64) ?_), rfl⟩
    have s := Lib.bitLen_shift8 x.toNat (by omega) (by omega)
    have e : (x / 256).toNat = x.toNat / 256 := by omega
    have l := Lib.bitLen_le8' (x / 256) (by omega) (by omega)
    rw [tab_eq (x / 256) (by omega) (by omega), s]
    rw [e] at l ⊢
    exact wrap64_two 8 _ l (by decide)
  · go_ret
    refine ⟨congrArg Ending.returned (congrArg (Value.int IntKind.i64) ?_), rfl⟩
    have l := Lib.bitLen_le8' x (by omega) (by omega)
    rw [tab_eq x (by omega) (by omega)]
    have h := wrap64_two 0 _ l (by decide)
    simpa using h

set_option maxHeartbeats 1000000 in
theorem len_any (x : Int) (w : World) (h0 : 0 ≤ x) (h1 : x ≤ 18446744073709551615) :
    Calls Try.prog 32 #[.int .u64 x] w fun e w' => e = .returned (.int .i64 (Lib.bitLen x.toNat)) ∧ w' = w := by
  go_enter Try.func32, Try.ntmps32
  go_wp2_with (go_at_call 45; refine (len64_any x _ h0 h1).mono ?_; rintro e w' ⟨rfl, rfl⟩)
  go_ret
  exact ⟨rfl, rfl⟩
end Go.Proofs.Qxb6600341a
