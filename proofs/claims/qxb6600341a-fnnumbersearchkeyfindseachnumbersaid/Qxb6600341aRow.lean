import Derived.Test.Qxb6600341aSo
import Derived.Laws.CopyOwn
namespace Go.Proofs.Qxb6600341a
open Go.RowKit

/-- some bool, some int comes back -/
def AnyBool (e : Ending) : Prop := ∃ r, e = .returned (.bool r)
theorem anyBool (r : Bool) : AnyBool (.returned (.bool r)) := ⟨r, rfl⟩
theorem Dr.below {w w' : World} (h : Dr w w') (B : Nat) : Below B w w' := by
  obtain ⟨n, rfl⟩ := h
  induction n with
  | zero => exact Below.refl _ _
  | succ n ih => exact ih.trans ((Below.refl _ _).drew)

/-- A row of n one-cell values that a slice leads to: nothing, or cells. -/
def Row (w : World) (a : Option Addr) (n : Nat) (g : Nat → Value) : Prop :=
  n = 0 ∨ ∃ b off, a = some ⟨b, off, none⟩ ∧ ∀ i, i < n → w.cell? ⟨b, off + i, none⟩ = some (g i)
theorem Row.get {w : World} {a : Option Addr} {n : Nat} {g : Nat → Value} (h : Row w a n g) {k : Nat} (hk : k < n) :
    ∃ b off, a = some ⟨b, off, none⟩ ∧ w.cell? ⟨b, off + k, none⟩ = some (g k) := by
  rcases h with rfl | ⟨b, off, rfl, h⟩
  · omega
  · exact ⟨b, off, rfl, h k hk⟩
theorem Row.below {w w' : World} {a : Option Addr} {n : Nat} {g : Nat → Value} (h : Row w a n g) (hb : Below w.heap.size w w') : Row w' a n g := by
  rcases h with rfl | ⟨b, off, rfl, h⟩
  · exact Or.inl rfl
  · refine Or.inr ⟨b, off, rfl, fun i hi => ?_⟩
    have hc := h i hi
    have : b < w.heap.size := block_lt_of_cell hc
    rw [hb.cell (p := ⟨b, off + i, none⟩) this]
    exact hc
theorem Row.dr {w w' : World} {a : Option Addr} {n : Nat} {g : Nat → Value} (h : Row w a n g) (hd : Dr w w') : Row w' a n g := h.below (hd.below _)

theorem Try.info4 : (Try.prog.info? 4).map (fun i => (i.zero, i.size, i.bytes)) = some (some (.bool false), 1, 1) := by kernel_rfl
theorem Try.info9 : (Try.prog.info? 9).map (fun i => (i.zero, i.size, i.bytes)) = some (some (.string ByteArray.empty), 1, 16) := by kernel_rfl
theorem Try.info3 : (Try.prog.info? 3).map (fun i => (i.zero, i.size, i.bytes)) = some (some (.int .i64 0), 1, 8) := by kernel_rfl

/-- n cells of a row, as a list -/
def cellsOf (n : Nat) (g : Nat → Value) : List Value := (List.range n).map g
theorem cellsOf_length (n : Nat) (g : Nat → Value) : (cellsOf n g).length = n := by simp [cellsOf]
theorem cellsOf_get {n : Nat} {g : Nat → Value} {j : Nat} {v : Value} (h : (cellsOf n g)[j]? = some v) : j < n ∧ v = g j := by
  unfold cellsOf at h
  rw [List.getElem?_map] at h
  by_cases hj : j < n
  · rw [List.getElem?_range hj] at h
    simp at h
    exact ⟨hj, h.symm⟩
  · rw [List.getElem?_eq_none (by simp; omega)] at h
    cases h
theorem cellsOf_at {n : Nat} (g : Nat → Value) {j : Nat} (h : j < n) : (cellsOf n g)[j]? = some (g j) := by
  unfold cellsOf
  rw [List.getElem?_map, List.getElem?_range h]
  rfl

/-- what a clone hands back -/
def Cloned (w : World) (a : Option Addr) (n : Nat) (g : Nat → Value) (e : Ending) (w' : World) : Prop :=
  ∃ a', e = .returned (.slice a' n n) ∧ Row w' a' n g ∧ Below w.heap.size w w' ∧ (a' = none ↔ a = none)

theorem heap_of_own {w : World} {lo e B n : Nat} {Z : List Value} (h : w.ownsRow lo e 1 (.slice (some ⟨B, 0, none⟩) n n) n Z) : w.heap[B]? = some (.cells Z.toArray e (0, 0)) := by
  obtain ⟨h1, h2⟩ := h
  rcases h2 with ⟨h2, _⟩ | ⟨g, cap, cur, h2, _, h4, _, _, h5, h6⟩
  · cases h2
  · simp only [Value.slice.injEq, Option.some.injEq, Addr.mk.injEq, true_and, and_true] at h2
    obtain ⟨rfl, rfl⟩ := h2
    rw [h4]
    have : cur.toList = Z := by rw [← h6, List.take_of_length_le (by simp; omega)]
    rw [← this]

/-- 'copy' into a row of the call's own, of the same length -/
theorem copy_run (T e lo : Nat) (hu : Try.prog.underlying T = some (.slice e)) (hs : (Try.prog.info? e).map (·.size) = some 1) {w w1 : World} {B n cap : Nat} {x : Addr} {g : Nat → Value} {Z : List Value} (hlo : w.heap.size = lo) (hB : lo ≤ B)
    (hown : w1.ownsRow lo e 1 (.slice (some ⟨B, 0, none⟩) n n) n Z) (hb : Below lo w w1) (hr : Row w (some x) n g) (h1 : ∀ i, (g i).oneCell' = true) :
    ∃ w2, (Builtin.copy_ #[T, T] 3 #[.slice (some ⟨B, 0, none⟩) n n, .slice (some x) n cap]).run Try.prog w1 = .ok (goInt n) w2 ∧ Row w2 (some ⟨B, 0, none⟩) n g ∧ Below lo w w2 := by
  subst hlo
  have hg := heap_of_own hown
  have hZ : Z.length = n := by have := hown.1; omega
  by_cases h0 : n = 0
  · subst h0
    exact ⟨w1, run_copy_none w1 T T 3 e _ _ _ _ _ _ hu hs (by simp), Or.inl rfl, hb⟩
  · have hrun := run_copy_row (P := Try.prog) w1 T T 3 e B 0 n n x n cap Z.toArray e (cellsOf n g) hu hs hg (by rw [cellsOf_length]; simp)
      (fun j v hj => by
        obtain ⟨hjn, rfl⟩ := cellsOf_get hj
        obtain ⟨b, off, hx, hc⟩ := (hr.below hb).get hjn
        cases hx
        rw [show (⟨b, off, none⟩ : Addr).add j = ⟨b, off + j, none⟩ by simp only [Addr.add]; split <;> simp_all]
        exact hc)
      (by rw [cellsOf_length]; simp; omega)
      (fun v hv => by
        obtain ⟨j, hj⟩ := List.mem_iff_getElem?.1 hv
        obtain ⟨_, rfl⟩ := cellsOf_get hj
        exact h1 j)
    rw [cellsOf_length] at hrun
    have hrow : (Z.toArray.toList.take 0 ++ cellsOf n g ++ Z.toArray.toList.drop (0 + n)) = cellsOf n g := by
      simp [List.drop_eq_nil_of_le (show Z.length ≤ n by omega)]
    rw [hrow] at hrun
    refine ⟨_, hrun, Or.inr ⟨B, 0, rfl, fun i hi => ?_⟩, below_setRow hb hB _⟩
    rw [Nat.zero_add]
    have hh := setRow_heap w1 B _ (cellsOf n g).toArray e _ hg
    simp only [World.cell?, hh]
    simpa using cellsOf_at g hi

set_option maxHeartbeats 1000000 in
set_option maxRecDepth 100000 in
theorem cloneB (a : Option Addr) (cap n : Nat) (g : Nat → Value) (w : World) (hr : Row w a n g) (hn : a = none → n = 0) (hl : n ≤ 65536) (h1 : ∀ i, (g i).oneCell' = true) :
    Calls Try.prog 12 #[.slice a n cap] w fun e w' => Cloned w a n g e w' := by
  obtain ⟨i0, hi, hz0, hz1, hz2⟩ := info_parts Try.info4
  have heq := fun (a : Option Addr) (n c : Nat) => Lib.run_eql_slice_nil w 29 4 a n c 0 0 Try.underlying29
  cases a with
  | none =>
    have := hn rfl
    subst this
    go_enter Try.func12, Try.ntmps12
    go_wp2
    go_ret
    exact ⟨none, rfl, Or.inl rfl, Below.refl _ _, Iff.rfl⟩
  | some x =>
    clear hn
    have H1 := hide h1
    clear h1
    go_enter Try.func12, Try.ntmps12
    go_wp2_with (first
      | (at_make; refine wpList_make_full _ rfl _ _ 29 rfl w.heap.size 4 i0 (.bool false) 1 Try.underlying29 hi hz0 hz1 .i64 .i64 _ _ n rfl rfl rfl rfl (by rw [hz2]; omega) (by unfold maxLen; omega) (Nat.le_refl _) ?_; intro w1 hown1 hg1; obtain ⟨w2, hrun, hR2, hb2⟩ := copy_run 29 4 w.heap.size (cap := cap) Try.underlying29 (by rw [hi]; simp [hz1]) rfl (Nat.le_refl _) hown1 ((Below.refl _ _).grown hg1 (Nat.le_refl _) (fun j hj => by cases hj)) hr H1.out; clear hown1)
      | go_in)
    go_ret
    exact ⟨_, rfl, hR2, hb2, by simp⟩

set_option maxHeartbeats 1000000 in
set_option maxRecDepth 100000 in
theorem cloneS (a : Option Addr) (cap n : Nat) (g : Nat → Value) (w : World) (hr : Row w a n g) (hn : a = none → n = 0) (hl : n ≤ 65536) (h1 : ∀ i, (g i).oneCell' = true) :
    Calls Try.prog 13 #[.slice a n cap] w fun e w' => Cloned w a n g e w' := by
  obtain ⟨i0, hi, hz0, hz1, hz2⟩ := info_parts Try.info9
  have heq := fun (a : Option Addr) (n c : Nat) => Lib.run_eql_slice_nil w 30 9 a n c 0 0 Try.underlying30
  cases a with
  | none =>
    have := hn rfl
    subst this
    go_enter Try.func13, Try.ntmps13
    go_wp2
    go_ret
    exact ⟨none, rfl, Or.inl rfl, Below.refl _ _, Iff.rfl⟩
  | some x =>
    clear hn
    have H1 := hide h1
    clear h1
    go_enter Try.func13, Try.ntmps13
    go_wp2_with (first
      | (at_make; refine wpList_make_full _ rfl _ _ 30 rfl w.heap.size 9 i0 (.string ByteArray.empty) 1 Try.underlying30 hi hz0 hz1 .i64 .i64 _ _ n rfl rfl rfl rfl (by rw [hz2]; omega) (by unfold maxLen; omega) (Nat.le_refl _) ?_; intro w1 hown1 hg1; obtain ⟨w2, hrun, hR2, hb2⟩ := copy_run 30 9 w.heap.size (cap := cap) Try.underlying30 (by rw [hi]; simp [hz1]) rfl (Nat.le_refl _) hown1 ((Below.refl _ _).grown hg1 (Nat.le_refl _) (fun j hj => by cases hj)) hr H1.out; clear hown1)
      | go_in)
    go_ret
    exact ⟨_, rfl, hR2, hb2, by simp⟩

set_option maxHeartbeats 1000000 in
set_option maxRecDepth 100000 in
theorem cloneI (a : Option Addr) (cap n : Nat) (g : Nat → Value) (w : World) (hr : Row w a n g) (hn : a = none → n = 0) (hl : n ≤ 65536) (h1 : ∀ i, (g i).oneCell' = true) :
    Calls Try.prog 14 #[.slice a n cap] w fun e w' => Cloned w a n g e w' := by
  obtain ⟨i0, hi, hz0, hz1, hz2⟩ := info_parts Try.info3
  have heq := fun (a : Option Addr) (n c : Nat) => Lib.run_eql_slice_nil w 31 3 a n c 0 0 Try.underlying31
  cases a with
  | none =>
    have := hn rfl
    subst this
    go_enter Try.func14, Try.ntmps14
    go_wp2
    go_ret
    exact ⟨none, rfl, Or.inl rfl, Below.refl _ _, Iff.rfl⟩
  | some x =>
    clear hn
    have H1 := hide h1
    clear h1
    go_enter Try.func14, Try.ntmps14
    go_wp2_with (first
      | (at_make; refine wpList_make_full _ rfl _ _ 31 rfl w.heap.size 3 i0 (.int .i64 0) 1 Try.underlying31 hi hz0 hz1 .i64 .i64 _ _ n rfl rfl rfl rfl (by rw [hz2]; omega) (by unfold maxLen; omega) (Nat.le_refl _) ?_; intro w1 hown1 hg1; obtain ⟨w2, hrun, hR2, hb2⟩ := copy_run 31 3 w.heap.size (cap := cap) Try.underlying31 (by rw [hi]; simp [hz1]) rfl (Nat.le_refl _) hown1 ((Below.refl _ _).grown hg1 (Nat.le_refl _) (fun j hj => by cases hj)) hr H1.out; clear hown1)
      | go_in)
    go_ret
    exact ⟨_, rfl, hR2, hb2, by simp⟩
end Go.Proofs.Qxb6600341a
