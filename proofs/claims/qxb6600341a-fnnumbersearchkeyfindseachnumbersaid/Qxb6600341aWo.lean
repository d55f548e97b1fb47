import Derived.Test.Qxb6600341aRow
namespace Go.Proofs.Qxb6600341a
open Go.RowKit

theorem Try.info64 : (Try.prog.info? 64).map (fun i => (i.zero, i.size, i.bytes)) = some (some (.agg #[.bool false, .string ByteArray.empty, .string ByteArray.empty]), 3, 40) := by kernel_rfl

/-- the worths, in a block of their own -/
def Worths (w : World) (lo B n : Nat) (N : Nat → Bool) (D E : Nat → ByteArray) : Prop :=
  lo ≤ B ∧ ∀ i, i < n → w.cell? ⟨B, i * 3, none⟩ = some (.bool (N i)) ∧ w.cell? ⟨B, i * 3 + 1, none⟩ = some (.string (D i)) ∧ w.cell? ⟨B, i * 3 + 2, none⟩ = some (.string (E i))

set_option maxHeartbeats 2000000 in
set_option maxRecDepth 100000 in
theorem worths_any (aN aD aE : Option Addr) (cN cD cE n : Nat) (N : Nat → Bool) (D E : Nat → ByteArray) (w : World)
    (hN : Row w aN n fun i => .bool (N i)) (hD : Row w aD n fun i => .string (D i)) (hE : Row w aE n fun i => .string (E i)) (hn : n ≤ 4096) :
    Calls Try.prog 20 #[.slice aN n cN, .slice aD n cD, .slice aE n cE] w fun e w' =>
      e = .returned (.slice (some ⟨w.heap.size, 0, none⟩) n n) ∧ Worths w' w.heap.size w.heap.size n N D E ∧ Below w.heap.size w w' := by
  obtain ⟨i0, hi, hz0, hz1, hz2⟩ := info_parts Try.info64
  go_enter Try.func20, Try.ntmps20
  go_wp2_with (first
    | (at_make; refine wpList_make_full _ rfl _ _ 50 rfl w.heap.size 64 i0 (.agg #[.bool false, .string ByteArray.empty, .string ByteArray.empty]) 3 Try.underlying50 hi hz0 hz1 .i64 .i64 _ _ n rfl rfl rfl rfl (by rw [hz2]; omega) (by unfold maxLen; omega) (Nat.le_refl _) ?_; intro w1 hown1 hg1)
    | go_in)
  go_loopw [14] (fun vi wr => ∃ (k : Nat) (cs : List Value), vi = .int .i64 k ∧ k ≤ n ∧ wr.ownsRow w.heap.size 64 3 (.slice (some ⟨w.heap.size, 0, none⟩) n n) n cs ∧ Below w.heap.size w wr ∧
      ∀ i, i < k → cs[i * 3]? = some (.bool (N i)) ∧ cs[i * 3 + 1]? = some (.string (D i)) ∧ cs[i * 3 + 2]? = some (.string (E i))) (fun vi _ => n - (intOf vi).toNat)
  case atStart => exact ⟨0, _, rfl, Nat.zero_le _, hown1, (Below.refl _ _).grown hg1 (Nat.le_refl _) (fun j hj => by cases hj), fun i hi => by omega⟩
  case round =>
    obtain ⟨k, cs, rfl, hk, hown, hb, hcs⟩ := hrel
    have HCS := hide hcs
    clear hcs
    by_cases hlt : k < n
    · obtain ⟨b1, o1, rfl, hc1⟩ := (hN.below hb).get hlt
      obtain ⟨b2, o2, rfl, hc2⟩ := (hD.below hb).get hlt
      obtain ⟨b3, o3, rfl, hc3⟩ := (hE.below hb).get hlt
      have hl := hown.1
      have e0 := hown.cellAt (k * 3) (by omega)
      have e1 := hown.cellAt (k * 3 + 1) (by omega)
      have e2 := hown.cellAt (k * 3 + 2) (by omega)
      have f0 := hown.frozenAt (k * 3)
      have f1 := hown.frozenAt (k * 3 + 1)
      have f2 := hown.frozenAt (k * 3 + 2)
      rw [List.getElem?_eq_getElem (by omega)] at e0 e1 e2
      generalize cs[k * 3] = z0 at e0
      generalize cs[k * 3 + 1] = z1 at e1
      generalize cs[k * 3 + 2] = z2 at e2
      have hst0 := (hown.stored (k * 3) (.bool (N k))).1
      have hst1 := (hst0.stored (k * 3 + 1) (.string (D k))).1
      have hst2 := (hst1.stored (k * 3 + 2) (.string (E k))).1
      have Hst : Hid ((((wr.setCell ⟨w.heap.size, k * 3, none⟩ (.bool (N k))).setCell ⟨w.heap.size, k * 3 + 1, none⟩ (.string (D k))).setCell ⟨w.heap.size, k * 3 + 2, none⟩ (.string (E k))).drew.ownsRow w.heap.size 64 3 (.slice (some ⟨w.heap.size, 0, none⟩) n n) n (((cs.set (k * 3) (.bool (N k))).set (k * 3 + 1) (.string (D k))).set (k * 3 + 2) (.string (E k)))) := hst2
      clear hst0 hst1 hst2 hown
      go_wp2
      go_region
      go_wp2
      go_roundw
      case rel =>
        refine ⟨k + 1, _, by go_num, by omega, Hst.out, (((hb.setCell (Nat.le_refl _) _).setCell (Nat.le_refl _) _).setCell (Nat.le_refl _) _).drew, fun i hi => ?_⟩
        by_cases h : i = k
        · subst h
          refine ⟨?_, ?_, ?_⟩
          · rw [List.getElem?_set_ne (by omega), List.getElem?_set_ne (by omega), List.getElem?_set_self (by omega)]
          · rw [List.getElem?_set_ne (by omega), List.getElem?_set_self (by simp; omega)]
          · rw [List.getElem?_set_self (by simp; omega)]
        · have := HCS.out i (by omega)
          rw [List.getElem?_set_ne (by omega), List.getElem?_set_ne (by omega), List.getElem?_set_ne (by omega), List.getElem?_set_ne (by omega), List.getElem?_set_ne (by omega), List.getElem?_set_ne (by omega), List.getElem?_set_ne (by omega), List.getElem?_set_ne (by omega), List.getElem?_set_ne (by omega)]
          exact this
      case measure => simp [intOf]; omega
    · obtain rfl : k = n := by omega
      go_wp2
      go_ret
      refine ⟨rfl, ⟨Nat.le_refl _, fun i hi => ?_⟩, hb⟩
      rw [hown.cellAt (i * 3) (by omega), hown.cellAt (i * 3 + 1) (by omega), hown.cellAt (i * 3 + 2) (by omega)]
      exact HCS.out i hi
end Go.Proofs.Qxb6600341a
