import Derived.Test.Qxb6600341aSuA
import Derived.Test.Qxb6600341aSuA6
import Derived.Test.Qxb6600341aSu7
import Derived.Test.Qxb6600341aSu11
import Derived.Test.Qxb6600341aSuC
import Derived.Test.Qxb6600341aSuC4
import Derived.Test.Qxb6600341aSu13
import Derived.Test.Qxb6600341aLen
import Derived.Sort.AssemblyPlain
namespace Go.Proofs.Qxb6600341a
open Go.RowKit Go.Sort

theorem callees : Callees13 where
  ins := Su.insertionSort_int
  brk := Su.breakPatterns_int
  piv := Su.choosePivot_str
  par := Su.partialInsertionSort_int
  peq := Su.partitionEqualOrdered_int
  prt := Su.partitionOrdered_int

theorem plain : Plain13 where
  swo := swo_ltInt
  ins := insertionSort_holds
  par := partialInsertionSort_holds
  prt := partition_holds _
  peq := partitionEqual_holds _
  pdq := pdq_sorts _

set_option maxHeartbeats 1000000 in
theorem sort_any (blk off cap : Nat) (zs : List Int) (w : World) (hH : Holds (Value.int .u64) w blk off zs.toArray) (hblk : blk < w.heap.size) (hsz : zs.length < 4611686018427387904) :
    Calls Try.prog 27 #[.slice (some ⟨blk, off, none⟩) zs.length cap] w fun e w' =>
      e = .returned (.tuple #[]) ∧ ∃ n os, w' = grow (putRow (Value.int .u64) (Sort.ahead w n) blk off (zs.mergeSort fun x y => decide (x ≤ y)).toArray) os := by
  have hl : Lib.bitLen zs.length ≤ 64 := Lib.bitLen_le _ 64 (by omega) (by omega)
  have he : zs.toArray.size = zs.length := by simp
  have hp : bitsLen zs.length = Lib.bitLen zs.length := (bitLen_eq _ (by omega)).symm
  have h := Su.pdqsort_int callees plain (zs.length + 1) blk off cap 0 zs.length (Lib.bitLen zs.length) zs.toArray w (by omega) hH hblk (by omega) (by omega) (by omega) (by omega) (Or.inl rfl)
  have hs : pdq ltInt zs.toArray 0 zs.length (Lib.bitLen zs.length) true true = (zs.mergeSort fun x y => decide (x ≤ y)).toArray := by
    have := sortInt zs
    unfold Sort.sort at this
    rw [he, hp] at this
    rw [← this]
  rw [he, hs] at h
  have HC := hide h
  clear h hs hp he hl hH
  go_enter Try.func27, Try.ntmps27
  go_wp2_with (first
    | (go_at_call 32; refine (len_any zs.length _ (by omega) (by omega)).mono ?_; rintro e w' ⟨rfl, rfl⟩)
    | (go_at_call 31; refine HC.out.mono ?_; rintro e w' ⟨rfl, hw⟩))
  go_end0
  exact ⟨rfl, hw⟩
end Go.Proofs.Qxb6600341a
