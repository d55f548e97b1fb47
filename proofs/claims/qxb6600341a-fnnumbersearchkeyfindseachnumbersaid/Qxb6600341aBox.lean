import Derived.Test.Qxb6600341aWo
import Derived.Test.Qxb6600341aKeys
import Derived.Deep.Cut
import Derived.Sort.Grow
import Derived.Deep.CutRange
import Derived.Deep.RegionLaw
namespace Go.Proofs.Qxb6600341a
open Go.RowKit
theorem Try.info32 : (Try.prog.info? 32).map (fun i => (i.zero, i.size, i.bytes)) = some (some (.int .u32 0), 1, 4) := by kernel_rfl

/-- A block known whole -/
def Blk (w : World) (B e n : Nat) (g : Nat → Value) : Prop := w.heap[B]? = some (.cells (cellsOf n g).toArray e (0, 0))

/-- a new block of n zeros -/
def zeros (w : World) (e n : Nat) (z : Value) : World := w.alloc (.cells (cellsOf n fun _ => z).toArray e (0, 0))

theorem make_run (t e n : Nat) (z : Value) (i : TypeInfo) (w : World) (ht : Try.prog.underlying t = some (.slice e)) (hi : Try.prog.info? e = some i) (hz : i.zero = some z) (hs : i.size = 1) (hc : z.cells = #[z]) (hb : i.bytes ≤ 64) (hn : n ≤ 4097) :
    (Instr.makeSlice t (.int .i64 (n : Int)) (.int .i64 (n : Int))).run Try.prog w = .ok (.slice (some ⟨w.heap.size, 0, none⟩) n n) (zeros w e n z) := by
  have hb2 : (i.bytes : Int) * (n : Int) ≤ 281474976710656 := by
    have h1 : i.bytes * n ≤ 64 * 4097 := Nat.mul_le_mul hb hn
    have h2 : ((i.bytes * n : Nat) : Int) ≤ 281474976710656 := by omega
    rwa [Int.natCast_mul] at h2
  rw [run_makeSlice (P := Try.prog) w t e i z ht hi hz .i64 .i64 n n (by omega) (by omega) (by rw [hs]; omega) hb2 (by omega)]
  rw [Int.toNat_natCast, hs, hc]
  unfold zeros
  congr 3
  apply Array.toList_inj.1
  rw [toList_madeCells_one]
  simp [cellsOf, List.map_const']

theorem Blk.lt {w : World} {B e n : Nat} {g : Nat → Value} (h : Blk w B e n g) : B < w.heap.size := by
  unfold Blk at h
  by_cases hb : B < w.heap.size
  · exact hb
  · rw [Array.getElem?_eq_none (by omega)] at h; cases h
theorem Blk.alloc {w : World} {B e n : Nat} {g : Nat → Value} (h : Blk w B e n g) (o : Obj) : Blk (w.alloc o) B e n g := by
  have := h.lt
  unfold Blk at h ⊢
  rw [World.alloc]
  simp only []
  rw [Array.getElem?_push_lt this]
  rw [Array.getElem?_eq_getElem this] at h
  exact h
theorem blk_new (w : World) (e n : Nat) (g : Nat → Value) : Blk (w.alloc (.cells (cellsOf n g).toArray e (0, 0))) w.heap.size e n g := by
  unfold Blk World.alloc
  simp
theorem Blk.zeros {w : World} {B e n : Nat} {g : Nat → Value} (h : Blk w B e n g) (e' n' : Nat) (z : Value) : Blk (zeros w e' n' z) B e n g := h.alloc _
theorem blk_zeros (w : World) (e n : Nat) (z : Value) : Blk (zeros w e n z) w.heap.size e n fun _ => z := blk_new _ _ _ _
theorem size_zeros (w : World) (e n : Nat) (z : Value) : (zeros w e n z).heap.size = w.heap.size + 1 := Array.size_push ..
theorem below_zeros {w0 w : World} {B : Nat} (h : Below B w0 w) (hB : B ≤ w.heap.size) (e n : Nat) (z : Value) : Below B w0 (zeros w e n z) := h.alloc hB _

/-- the search's own twelve cells -/
def cellsS (W : Option Addr) (n b1 b2 b3 b4 : Nat) (keys : Value) (i : Nat) : Value :=
  [.slice W n n, .slice (some ⟨b1, 0, none⟩) n n, .slice (some ⟨b2, 0, none⟩) n n, .slice (some ⟨b3, 0, none⟩) n n, .slice (some ⟨b4, 0, none⟩) n n, .int .i64 0, keys, .int .i64 0, .slice none 0 0, .slice none 0 0, .slice none 0 0, .slice none 0 0].getD i undef
structure Boxed (w : World) (W : Option Addr) (n b1 b2 b3 b4 S : Nat) (wx : World) : Prop where
  make ::
  ge : w.heap.size ≤ b1 ∧ w.heap.size ≤ b2 ∧ w.heap.size ≤ S
  ne : b1 ≠ b2 ∧ b1 ≠ S ∧ b2 ≠ S
  fps : Blk wx b1 32 n fun _ => .int .u32 0
  first : Blk wx b2 3 n fun _ => .int .i64 0
  box : Blk wx S 55 12 (cellsS W n b1 b2 b3 b4 (.slice none 0 0))
  below : Below w.heap.size w wx
def BoxedAt (w : World) (W : Option Addr) (n : Nat) (v : Value) (wx : World) : Prop := ∃ b1 b2 b3 b4 S, v = .pointer (some ⟨S, 0, none⟩) ∧ Boxed w W n b1 b2 b3 b4 S wx


theorem Blk.cell {w : World} {B e n : Nat} {g : Nat → Value} (h : Blk w B e n g) {k : Nat} (hk : k < n) : w.cell? ⟨B, k, none⟩ = some (g k) := by
  unfold Blk at h
  simp only [World.cell?, h]
  simpa using cellsOf_at g hk
theorem Blk.frozen {w : World} {B e n : Nat} {g : Nat → Value} (h : Blk w B e n g) (k : Nat) : w.frozen? ⟨B, k, none⟩ = false := by
  unfold Blk at h
  simp [World.frozen?, h]
def upd (g : Nat → Value) (k : Nat) (v : Value) (i : Nat) : Value := if i = k then v else g i
theorem cellsOf_set (n : Nat) (g : Nat → Value) (k : Nat) (v : Value) : (cellsOf n g).set k v = cellsOf n (upd g k v) := by
  apply List.ext_getElem?
  intro i
  by_cases hi : i < n
  · rw [cellsOf_at _ hi, List.getElem?_set]
    by_cases h : k = i
    · subst h; simp [upd, cellsOf_length, hi]
    · simp [h, upd, cellsOf_at g hi, show ¬ i = k by omega]
  · rw [List.getElem?_eq_none (by simp [cellsOf_length]; omega), List.getElem?_eq_none (by simp [cellsOf_length]; omega)]
theorem Blk.congr {w : World} {B e n : Nat} {g g' : Nat → Value} (h : Blk w B e n g) (he : ∀ i, i < n → g i = g' i) : Blk w B e n g' := by
  unfold Blk at h ⊢
  have : cellsOf n g = cellsOf n g' := by
    unfold cellsOf
    exact List.map_congr_left fun i hi => he i (List.mem_range.1 hi)
  rw [← this]; exact h
theorem Blk.set {w : World} {B e n : Nat} {g : Nat → Value} (h : Blk w B e n g) (k : Nat) (v : Value) : Blk (w.setCell ⟨B, k, none⟩ v) B e n (upd g k v) := by
  have hl := h.lt
  unfold Blk at h ⊢
  rw [Sort.setCell_eq, Sort.mapBlock]
  simp only []
  rw [Array.getElem?_modify, if_pos rfl, h]
  simp [Sort.onCells, cellsOf_set]
theorem Blk.other {w : World} {B e n : Nat} {g : Nat → Value} (h : Blk w B e n g) {C : Nat} (hne : C ≠ B) (k : Nat) (v : Value) : Blk (w.setCell ⟨C, k, none⟩ v) B e n g := by
  unfold Blk at h ⊢
  rw [Sort.setCell_eq, Sort.mapBlock]
  simp only []
  rw [Array.getElem?_modify, if_neg hne, h]
theorem Blk.drew {w : World} {B e n : Nat} {g : Nat → Value} (h : Blk w B e n g) : Blk w.drew B e n g := h
end Go.Proofs.Qxb6600341a
