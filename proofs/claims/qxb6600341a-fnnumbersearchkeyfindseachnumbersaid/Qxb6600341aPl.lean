import Derived.Test.Qxb6600341aKeys
namespace Go.Proofs.Qxb6600341a
open Go.RowKit
def cnt (F : Nat → Int) (m : Int) (a : Nat) : Nat := ((List.range a).filter fun x => decide (mk (F x) = m)).length
theorem cnt_zero (F : Nat → Int) (m : Int) : cnt F m 0 = 0 := rfl
theorem cnt_yes (F : Nat → Int) (m : Int) (a : Nat) (h : mk (F a) = m) : cnt F m (a + 1) = cnt F m a + 1 := by
  simp [cnt, List.range_succ, List.filter_append, h]
theorem cnt_no (F : Nat → Int) (m : Int) (a : Nat) (h : mk (F a) ≠ m) : cnt F m (a + 1) = cnt F m a := by
  simp [cnt, List.range_succ, List.filter_append, h]
theorem cnt_all (n : Nat) (F : Nat → Int) (m : Int) : cnt F m n = (having n F m).length := rfl
theorem having_get {n : Nat} {F : Nat → Int} {m : Int} {a : Nat} (ha : a < n) (hm : mk (F a) = m) : (having n F m)[cnt F m a]? = some a := by
  have h1 : List.range n = List.range a ++ (a :: (List.range' (a + 1) (n - a - 1))) := by
    have h2 : List.range n = List.range' 0 n := List.range_eq_range'
    have h3 : List.range a = List.range' 0 a := List.range_eq_range'
    have h4 : List.range' a (n - a) = a :: List.range' (a + 1) (n - a - 1) := by
      rw [show n - a = (n - a - 1) + 1 by omega, List.range'_succ]; simp
    rw [h2, h3, ← h4]
    have := List.range'_append_1 (s := 0) (m := a) (n := n - a)
    rw [Nat.zero_add] at this
    rw [this]
    congr 1; omega
  unfold having cnt
  rw [h1, List.filter_append, List.getElem?_append_right (Nat.le_refl _), Nat.sub_self, List.filter_cons_of_pos (by simp [hm])]
  rfl
theorem cnt_le {n : Nat} {F : Nat → Int} {m : Int} {a : Nat} (ha : a < n) (hm : mk (F a) = m) : cnt F m a < (having n F m).length := (List.getElem?_eq_some_iff.1 (having_get ha hm)).1
theorem cnt_top (F : Nat → Int) (m : Int) (a : Nat) : cnt F m a ≤ a := by
  unfold cnt
  exact Nat.le_trans (List.length_filter_le _ _) (by simp)
theorem having_mem {n : Nat} {F : Nat → Int} {m : Int} {a : Nat} (ha : a < n) (hm : mk (F a) = m) : a ∈ having n F m := List.mem_of_getElem? (having_get ha hm)
/-- the place of a number in its group -/
theorem Group.place {n : Nat} {F : Nat → Int} {m : Int} {lo hi : Nat} (hn : n ≤ 4096) (h : Group n F m lo hi) {a : Nat} (ha : a < n) (hm : mk (F a) = m) : ∃ t, t < hi - lo ∧ nat n F (lo + t) = a := by
  have := having_mem ha hm
  rw [← h.list hn] at this
  obtain ⟨t, ht, e⟩ := List.mem_map.1 this
  exact ⟨t, List.mem_range.1 ht, e⟩
theorem Group.at {n : Nat} {F : Nat → Int} {m : Int} {lo hi : Nat} (hn : n ≤ 4096) (h : Group n F m lo hi) {a : Nat} (ha : a < n) (hm : mk (F a) = m) : cnt F m a < hi - lo ∧ nat n F (lo + cnt F m a) = a := by
  have h1 := cnt_le ha hm
  rw [h.length hn] at h1
  have h2 := h.get hn h1
  rw [having_get ha hm] at h2
  exact ⟨h1, (Option.some.inj h2).symm⟩
end Go.Proofs.Qxb6600341a
