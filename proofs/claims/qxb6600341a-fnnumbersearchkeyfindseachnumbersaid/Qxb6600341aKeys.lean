import Derived.Test.Qxb6600341aFp
namespace Go.Proofs.Qxb6600341a
open Go.RowKit

/-- what newNumberSearch sorts: mark and index in one number -/
def packed (n : Nat) (F : Nat → Int) : List Int := (List.range n).map fun i => mk (F i) * 4294967296 + (i : Int)
def sorted (n : Nat) (F : Nat → Int) : List Int := (packed n F).mergeSort fun x y => decide (x ≤ y)
/-- the index at place j of the sorted ones, and its mark -/
def low (x : Int) : Nat := (x % 4294967296).toNat
theorem low_of (m : Int) (i : Nat) (h : i < 4294967296) : low (m * 4294967296 + (i : Int)) = i := by unfold low; omega
def nat (n : Nat) (F : Nat → Int) (j : Nat) : Nat := low ((sorted n F).getD j 0)
def mark (n : Nat) (F : Nat → Int) (j : Nat) : Int := mk (F (nat n F j))

theorem sorted_perm (n : Nat) (F : Nat → Int) : (sorted n F).Perm (packed n F) := List.mergeSort_perm _ _
theorem sorted_length (n : Nat) (F : Nat → Int) : (sorted n F).length = n := by rw [(sorted_perm n F).length_eq]; simp [packed]
theorem sorted_mem {n : Nat} {F : Nat → Int} {j : Nat} (h : j < n) : ∃ i, i < n ∧ (sorted n F).getD j 0 = mk (F i) * 4294967296 + (i : Int) := by
  have hj : j < (sorted n F).length := by rw [sorted_length]; exact h
  have hm : (sorted n F)[j] ∈ packed n F := (sorted_perm n F).mem_iff.1 (List.getElem_mem hj)
  unfold packed at hm
  rw [List.mem_map] at hm
  obtain ⟨i, hi, he⟩ := hm
  exact ⟨i, List.mem_range.1 hi, by rw [List.getD, List.getElem?_eq_getElem hj]; exact he.symm⟩
theorem sorted_split {n : Nat} {F : Nat → Int} (hn : n ≤ 4096) {j : Nat} (h : j < n) : nat n F j < n ∧ (sorted n F).getD j 0 = mark n F j * 4294967296 + (nat n F j : Int) := by
  obtain ⟨i, hi, he⟩ := sorted_mem (F := F) h
  have e : nat n F j = i := by unfold nat; rw [he]; exact low_of _ _ (by omega)
  refine ⟨by omega, ?_⟩
  unfold mark
  rw [e, he]
theorem nat_lt {n : Nat} {F : Nat → Int} (hn : n ≤ 4096) {j : Nat} (h : j < n) : nat n F j < n := (sorted_split hn h).1
theorem packed_nodup (n : Nat) (F : Nat → Int) (hn : n ≤ 4096) : (packed n F).Nodup := by
  unfold packed
  rw [List.nodup_iff_pairwise_ne, List.pairwise_map]
  refine List.Pairwise.imp_of_mem ?_ (List.nodup_range (n := n))
  intro a b ha hb hne he
  rw [List.mem_range] at ha hb
  have := mk_bounds (F a)
  have := mk_bounds (F b)
  omega
theorem sorted_pairwise (n : Nat) (F : Nat → Int) (hn : n ≤ 4096) : (sorted n F).Pairwise (· < ·) := by
  have h1 : (sorted n F).Pairwise (fun x y => decide (x ≤ y) = true) := List.pairwise_mergeSort (by intro a b c; simp; omega) (by intro a b; simp; omega) _
  have h2 : (sorted n F).Nodup := (sorted_perm n F).nodup_iff.2 (packed_nodup n F hn)
  rw [List.nodup_iff_pairwise_ne] at h2
  rw [List.pairwise_iff_getElem] at h1 h2 ⊢
  intro i j hi hj hij
  have a := h1 i j hi hj hij
  have b := h2 i j hi hj hij
  simp at a
  omega
theorem sorted_lt {n : Nat} {F : Nat → Int} (hn : n ≤ 4096) {j k : Nat} (hjk : j < k) (hk : k < n) : (sorted n F).getD j 0 < (sorted n F).getD k 0 := by
  have h := sorted_pairwise n F hn
  rw [List.pairwise_iff_getElem] at h
  have l := sorted_length n F
  have := h j k (by omega) (by omega) hjk
  simpa [List.getD, show j < (sorted n F).length by omega, show k < (sorted n F).length by omega] using this
theorem mark_le {n : Nat} {F : Nat → Int} (hn : n ≤ 4096) {j k : Nat} (hjk : j ≤ k) (hk : k < n) : mark n F j ≤ mark n F k := by
  by_cases e : j = k
  · subst e; omega
  have h := sorted_lt (F := F) hn (show j < k by omega) hk
  obtain ⟨a1, a2⟩ := sorted_split (F := F) hn (show j < n by omega)
  obtain ⟨b1, b2⟩ := sorted_split (F := F) hn hk
  omega
theorem nat_asc {n : Nat} {F : Nat → Int} (hn : n ≤ 4096) {j k : Nat} (hjk : j < k) (hk : k < n) (he : mark n F j = mark n F k) : nat n F j < nat n F k := by
  have h := sorted_lt (F := F) hn hjk hk
  obtain ⟨a1, a2⟩ := sorted_split (F := F) hn (show j < n by omega)
  obtain ⟨b1, b2⟩ := sorted_split (F := F) hn hk
  omega
def nats (n : Nat) (F : Nat → Int) : List Nat := (List.range n).map (nat n F)
theorem nats_length (n : Nat) (F : Nat → Int) : (nats n F).length = n := by simp [nats]
theorem nats_get (n : Nat) (F : Nat → Int) {j : Nat} (h : j < n) : (nats n F)[j]? = some (nat n F j) := by
  unfold nats
  rw [List.getElem?_map, List.getElem?_range h, Option.map_some]
theorem nats_eq (n : Nat) (F : Nat → Int) : nats n F = (sorted n F).map low := by
  apply List.ext_getElem?
  intro j
  by_cases hj : j < n
  · have hl : j < (sorted n F).length := by rw [sorted_length]; exact hj
    rw [nats_get n F hj, List.getElem?_map, List.getElem?_eq_getElem hl, Option.map_some]
    unfold nat
    rw [List.getD, List.getElem?_eq_getElem hl, Option.getD_some]
  · rw [List.getElem?_eq_none (by rw [nats_length]; omega), List.getElem?_eq_none (by rw [List.length_map, sorted_length]; omega)]
theorem packed_length (n : Nat) (F : Nat → Int) : (packed n F).length = n := by simp [packed]
theorem packed_get (n : Nat) (F : Nat → Int) {j : Nat} (h : j < n) : (packed n F)[j]? = some (mk (F j) * 4294967296 + (j : Int)) := by
  unfold packed
  rw [List.getElem?_map, List.getElem?_range h, Option.map_some]
theorem packed_low (n : Nat) (F : Nat → Int) (hn : n ≤ 4096) : (packed n F).map low = List.range n := by
  apply List.ext_getElem?
  intro j
  by_cases hj : j < n
  · have hb : j < 4294967296 := by omega
    have hl := low_of (mk (F j)) j hb
    rw [List.getElem?_map, packed_get n F hj, Option.map_some, hl, List.getElem?_range hj]
  · rw [List.getElem?_eq_none (by rw [List.length_map, packed_length]; omega), List.getElem?_eq_none (by rw [List.length_range]; omega)]
theorem nats_perm (n : Nat) (F : Nat → Int) (hn : n ≤ 4096) : (nats n F).Perm (List.range n) := by
  rw [nats_eq, ← packed_low n F hn]
  exact (sorted_perm n F).map _

/-! ### the groups -/
/-- the places from lo to hi are all that have the mark m -/
structure Group (n : Nat) (F : Nat → Int) (m : Int) (lo hi : Nat) : Prop where
  make ::
  lt : lo < hi
  le : hi ≤ n
  eq : ∀ j, lo ≤ j → j < hi → mark n F j = m
  before : ∀ j, j < lo → mark n F j < m
  behind : ∀ j, hi ≤ j → j < n → m < mark n F j
/-- the indexes with the mark m, ascending -/
def having (n : Nat) (F : Nat → Int) (m : Int) : List Nat := (List.range n).filter fun a => decide (mk (F a) = m)
theorem Group.list {n : Nat} {F : Nat → Int} {m : Int} {lo hi : Nat} (hn : n ≤ 4096) (h : Group n F m lo hi) : (List.range (hi - lo)).map (fun t => nat n F (lo + t)) = having n F m := by
  have l1 := h.lt
  have l2 := h.le
  have e : (nats n F).filter (fun a => decide (mk (F a) = m)) = (List.range (hi - lo)).map (fun t => nat n F (lo + t)) := by
    have hr : List.range n = List.range lo ++ ((List.range (hi - lo)).map (lo + ·) ++ (List.range (n - hi)).map (hi + ·)) := by
      have e1 : n = lo + ((hi - lo) + (n - hi)) := by omega
      conv => lhs; rw [e1]
      rw [List.range_add, List.range_add, List.map_append, List.map_map]
      congr 2
      apply List.map_congr_left
      intro i _
      simp
      omega
    unfold nats
    rw [hr, List.map_append, List.map_append, List.filter_append, List.filter_append]
    have f1 : ((List.range lo).map (nat n F)).filter (fun a => decide (mk (F a) = m)) = [] := by
      rw [List.filter_eq_nil_iff]
      intro a ha
      rw [List.mem_map] at ha
      obtain ⟨j, hj, rfl⟩ := ha
      rw [List.mem_range] at hj
      have := h.before j hj
      unfold mark at this
      simp; omega
    have f2 : (((List.range (hi - lo)).map (lo + ·)).map (nat n F)).filter (fun a => decide (mk (F a) = m)) = (List.range (hi - lo)).map (fun t => nat n F (lo + t)) := by
      rw [List.map_map, List.filter_eq_self.2]
      · rfl
      · intro a ha
        rw [List.mem_map] at ha
        obtain ⟨j, hj, rfl⟩ := ha
        rw [List.mem_range] at hj
        have := h.eq (lo + j) (by omega) (by omega)
        unfold mark at this
        simpa using this
    have f3 : (((List.range (n - hi)).map (hi + ·)).map (nat n F)).filter (fun a => decide (mk (F a) = m)) = [] := by
      rw [List.filter_eq_nil_iff]
      intro a ha
      rw [List.mem_map] at ha
      obtain ⟨j, hj, rfl⟩ := ha
      rw [List.mem_map] at hj
      obtain ⟨t, ht, rfl⟩ := hj
      rw [List.mem_range] at ht
      have := h.behind (hi + t) (by omega) (by omega)
      unfold mark at this
      simp; omega
    rw [f1, f2, f3]
    simp
  have hp : ((List.range (hi - lo)).map (fun t => nat n F (lo + t))).Perm (having n F m) := by
    rw [← e]
    exact (nats_perm n F hn).filter _
  refine List.Perm.eq_of_pairwise (le := fun a b => a < b) (fun a b _ _ h1 h2 => by omega) ?_ ?_ hp
  · rw [List.pairwise_map]
    refine List.Pairwise.imp_of_mem ?_ (List.pairwise_lt_range (n := hi - lo))
    intro a b ha hb hab
    rw [List.mem_range] at ha hb
    exact nat_asc hn (by omega) (by omega) (by rw [h.eq _ (by omega) (by omega), h.eq _ (by omega) (by omega)])
  · exact (List.pairwise_lt_range (n := n)).filter _
theorem Group.length {n : Nat} {F : Nat → Int} {m : Int} {lo hi : Nat} (hn : n ≤ 4096) (h : Group n F m lo hi) : (having n F m).length = hi - lo := by
  rw [← h.list hn]; simp
theorem Group.get {n : Nat} {F : Nat → Int} {m : Int} {lo hi : Nat} (hn : n ≤ 4096) (h : Group n F m lo hi) {t : Nat} (ht : t < hi - lo) : (having n F m)[t]? = some (nat n F (lo + t)) := by
  rw [← h.list hn]; simp [ht]
end Go.Proofs.Qxb6600341a
