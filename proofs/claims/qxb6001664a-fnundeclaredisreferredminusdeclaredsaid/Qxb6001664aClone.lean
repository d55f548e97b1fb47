import Derived.Test.Qxb6001664aBase
namespace Go.Proofs.Qxb6001664a
open Go.RowKit

theorem Try.info9 : (Try.prog.info? 9).map (fun i => (i.zero, i.size, i.bytes)) = some (some (.string ByteArray.empty), 1, 16) := by kernel_rfl

def filled (ss : List ByteArray) (k : Nat) : List Value := (ss.take k).map Value.string ++ List.replicate (ss.length - k) (.string ByteArray.empty)
theorem filled_length (ss : List ByteArray) (k : Nat) (h : k ≤ ss.length) : (filled ss k).length = ss.length := by
  simp [filled]; omega
theorem filled_set (ss : List ByteArray) (k : Nat) (s : ByteArray) (h : k < ss.length) (hs : s = ss.getD k ByteArray.empty) : (filled ss k).set k (.string s) = filled ss (k + 1) := by
  unfold filled
  rw [take_snoc ss k h, ← hs, List.map_append, List.set_append_right _ _ (by simp; omega)]
  have : k - ((ss.take k).map Value.string).length = 0 := by simp; omega
  rw [this, show ss.length - k = (ss.length - (k + 1)) + 1 from by omega, List.replicate_succ]
  simp
theorem filled_at (ss : List ByteArray) (j : Nat) (h : j < ss.length) : (filled ss ss.length)[j]? = some (.string (ss.getD j ByteArray.empty)) := by
  simp [filled, h]

set_option maxHeartbeats 400000 in
theorem clone_any (a : Option Addr) (cap : Nat) (ss : List ByteArray) (w : World) (hr : Row w a ss) (hn : a = none → ss = []) (hl : ss.length ≤ 8192) :
    Calls Try.prog 13 #[.slice a ss.length cap] w fun e w' => ∃ a', e = .returned (.slice a' ss.length ss.length) ∧ Row w' a' ss ∧ Below w.heap.size w w' ∧ (a' = none ↔ a = none) := by
  obtain ⟨i0, hi, hz0, hz1, hz2⟩ := info_parts Try.info9
  have heq := fun (a : Option Addr) (n c : Nat) => Lib.run_eql_slice_nil w 22 9 a n c 0 0 Try.underlying22
  cases a with
  | none =>
    have := hn rfl
    subst this
    go_enter Try.func13, Try.ntmps13
    go_wp2
    go_ret
    exact ⟨none, rfl, Or.inl rfl, Below.refl _ _, rfl⟩
  | some x =>
    clear hn
    go_enter Try.func13, Try.ntmps13
    go_wp2_with (first | (at_make; refine wpList_make_full _ rfl _ _ 22 rfl w.heap.size 9 i0 (.string ByteArray.empty) 1 Try.underlying22 hi hz0 hz1 .i64 .i64 _ _ ss.length rfl rfl rfl rfl (by rw [hz2]; omega) (by unfold maxLen; omega) (Nat.le_refl _) ?_; intro w1 hown1 hg1) | go_in)
    rw [show (madeCells (Value.string ByteArray.empty).cells (ss.length * 1)).toList = filled ss 0 from by rw [Nat.mul_one]; exact (toList_madeCells_one _ _).trans (by simp [filled])] at hown1
    go_loopw [4] (fun i wr => ∃ k : Nat, k ≤ ss.length ∧ i = .int .i64 k ∧ wr.ownsRow w.heap.size 9 1 (.slice (some ⟨w.heap.size, 0, none⟩) ss.length ss.length) ss.length (filled ss k) ∧ Below w.heap.size w wr) (fun i _ => ss.length - (intOf i).toNat)
    case atStart => exact ⟨0, Nat.zero_le _, rfl, hown1, (Below.refl _ _).grown hg1 (Nat.le_refl _) (fun j hj => by cases hj)⟩
    case round =>
      obtain ⟨k, hk, rfl, hown, hb⟩ := hrel
      by_cases hlt : k < ss.length
      · obtain ⟨bb, off, s, hx, hs, hc⟩ := (hr.below hb).get hlt
        cases hx
        have hst := hown.stored k (.string s)
        rw [filled_set ss k s hlt hs] at hst
        have Hst := hide hst
        have hf := hown.frozenAt k
        have hcc : ∃ u, wr.cell? ⟨w.heap.size, k, none⟩ = some u := ⟨_, (hown.cellAt k (by omega)).trans (List.getElem?_eq_getElem (by rw [filled_length _ _ hk]; omega))⟩
        obtain ⟨u, hcu⟩ := hcc
        clear hst hs hown
        go_wp2
        go_roundw
        case rel => exact ⟨k + 1, by omega, by go_num, Hst.out.1, hb.setCell (Nat.le_refl _) _⟩
        case measure => simp [intOf]; omega
      · obtain rfl : k = ss.length := by omega
        go_wp2
        go_ret
        refine ⟨_, rfl, Or.inr ⟨_, _, rfl, fun i hi => ?_⟩, hb, by simp⟩
        rw [Nat.zero_add, hown.cellAt i (by omega), filled_at ss i hi]
end Go.Proofs.Qxb6001664a
