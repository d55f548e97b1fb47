import Derived.Test.Qxb6600341aNe
namespace Go.Proofs.Qxb6600341a
open Go.RowKit

set_option maxHeartbeats 40000000 in
set_option maxRecDepth 100000 in
theorem search_any (B : Nat) (aF : Option Addr) (lf cF n : Nat) (G : Nat → Int) (N : Nat → Bool) (D E : Nat → ByteArray) (w : World) (hn : n ≤ 4096) (hW : Worths w 0 B n N D E)
    (hD : ∀ i, i < n → (D i).size ≤ 1048576) (hE : ∀ i, i < n → (E i).size ≤ 1048576) (hBw : B < w.heap.size)
    (hfr : aF ≠ none → lf = n) (hR : Row w aF lf fun i => .int .i64 (G i)) :
    Calls Try.prog 19 #[.slice (some ⟨B, 0, none⟩) n n, .slice aF lf cF] w fun e w' => Search w n (fun i => fp (N i) (D i) (E i)) e w' := by
  obtain ⟨i66, hi66, hz660, hz661, hz662⟩ := info_parts Try.info66
  have m53 := fun w => make_run 53 66 n (.int .u64 0) i66 w Try.underlying53 hi66 hz660 hz661 rfl (by omega) (by omega)
  obtain ⟨i32, hi32, hz320, hz321, hz322⟩ := info_parts Try.info32
  obtain ⟨i3, hi3, hz30, hz31, hz32⟩ := info_parts Try.info3
  obtain ⟨i4, hi4, hz40, hz41, hz42⟩ := info_parts Try.info4
  have m38 := fun w => make_run 38 32 n (.int .u32 0) i32 w Try.underlying38 hi32 hz320 hz321 rfl (by omega) (by omega)
  have m29 := fun w => make_run 29 4 n (.bool false) i4 w Try.underlying29 hi4 hz40 hz41 rfl (by omega) (by omega)
  have HFR := hide hfr
  have HRR := hide hR
  have m31 := fun w => make_run 31 3 n (.int .i64 0) i3 w Try.underlying31 hi3 hz30 hz31 rfl (by omega) (by omega)
  clear hi66 hz660 hz661 hz662 hi3 hz30 hz31 hz32 hi32 hz320 hz321 hz322 hi4 hz40 hz41 hz42 hfr hR
  have hd : w.drew.heap.size = w.heap.size := rfl
  obtain ⟨F, hF⟩ : ∃ F : Nat → Int, F = fun i => fp (N i) (D i) (E i) := ⟨_, rfl⟩
  have HF := hide hF
  clear hF
  go_enter Try.func19, Try.ntmps19
  go_upto_region 1 with fail
  go_cut [5] from 18 (fun s5 wx => BoxedAt w (some ⟨B, 0, none⟩) n s5 wx)
  case first =>
    go_region
    all_goals
      go_wp2_with fail
      go_meet
      refine ⟨_, _, _, _, _, rfl, ⟨?_, ?_, ?_, ?_, blk_new _ 55 12 (cellsS _ _ _ _ _ _ _), ?_⟩⟩
      case rel.refine_1 => simp only [size_zeros, hd]; omega
      case rel.refine_2 => simp only [size_zeros, hd]; omega
      case rel.refine_3 => refine Blk.alloc ?_ _; repeat (first | exact blk_zeros _ _ _ _ | refine Blk.zeros ?_ _ _ _)
      case rel.refine_4 => refine Blk.alloc ?_ _; repeat (first | exact blk_zeros _ _ _ _ | refine Blk.zeros ?_ _ _ _)
      case rel.refine_5 => exact (below_zeros (below_zeros (below_zeros (below_zeros (Below.refl _ _).drew (by simp only [hd]; omega) _ _ _) (by simp only [size_zeros, hd]; omega) _ _ _) (by simp only [size_zeros, hd]; omega) _ _ _) (by simp only [size_zeros, hd]; omega) _ _ _).alloc (by simp only [size_zeros, hd]; omega) _
  case rest =>
    obtain ⟨b1, b2, b3, b4, S, rfl, hB⟩ := hcut
    rename_i hk
    refine hk _ _ ?_
    exact search_b B aF lf cF n G N D E w hn hW hD hE hBw HFR.out HRR.out b1 b2 b3 b4 S _ hB _ _ _ _ _ _ _ _ _ _ _ _ _ _ _ _ _ _ _ _ _ _ _ _ _ _ _ _ _ _ _ _ _ _ _ _ _ _ _ _ _ _ _ _ _ _ _ _ _ _ _ _ _ _ _ _ _ _ _ _ _ _ _ _ _ _ _ _ _ _ _ _ _ _ _ _ _ _ _ _ _ _ _ _ _ _ _ _ _ _ _ _ _ _ _ _ _ _ _ _ _ _ _ _ _ _ _ _ _ _ _ _ _ _ _ _ _ _ _ _ _ _ _ _ _ _ _ _ _ _ _ _ _ _ _ _ _ _ _ _ _ _ _ _ _ _ _ _ _ _ _ _ _ _ _ _ _ _ _ _ _ _ _ _ _ _ _ _ _ _ _ _ _
end Go.Proofs.Qxb6600341a
