import Derived.Test.Qxb6001664aBase
namespace Go.Proofs.Qxb6001664a

/-- each once, at its first place -/
def addS (acc : List ByteArray) (x : ByteArray) : List ByteArray := if inB acc x then acc else acc ++ [x]
def ded (l : List ByteArray) : List ByteArray := l.foldl addS []

theorem ded_nil : ded [] = [] := rfl
theorem ded_snoc (l : List ByteArray) (x : ByteArray) : ded (l ++ [x]) = addS (ded l) x := by simp [ded, List.foldl_append]
theorem addS_hit {acc : List ByteArray} {x : ByteArray} (h : inB acc x = true) : addS acc x = acc := by simp [addS, h]
theorem addS_miss {acc : List ByteArray} {x : ByteArray} (h : inB acc x = false) : addS acc x = acc ++ [x] := by simp [addS, h]

/-- induction from the end -/
theorem snoc_ind {α : Type} {p : List α → Prop} (h0 : p []) (h1 : ∀ l x, p l → p (l ++ [x])) (l : List α) : p l := by
  have : ∀ r : List α, p r.reverse := by
    intro r
    induction r with
    | nil => exact h0
    | cons a r ih => rw [List.reverse_cons]; exact h1 _ _ ih
  have h := this l.reverse
  rwa [List.reverse_reverse] at h

theorem mem_addS {acc : List ByteArray} {x y : ByteArray} : y ∈ addS acc x ↔ y ∈ acc ∨ y = x := by
  unfold addS
  cases h : inB acc x
  · simp
  · have := inB_iff.1 h
    constructor
    · intro hy; exact Or.inl hy
    · rintro (hy | rfl)
      · exact hy
      · exact this

theorem mem_ded (l : List ByteArray) (y : ByteArray) : y ∈ ded l ↔ y ∈ l := by
  refine snoc_ind (p := fun l => y ∈ ded l ↔ y ∈ l) (by simp [ded]) (fun l x ih => ?_) l
  rw [ded_snoc, mem_addS, ih]
  simp

theorem ded_len (l : List ByteArray) : (ded l).length ≤ l.length := by
  refine snoc_ind (p := fun l => (ded l).length ≤ l.length) (by simp [ded]) (fun l x ih => ?_) l
  rw [ded_snoc]
  unfold addS
  split <;> simp <;> omega

theorem ded_len_take (l : List ByteArray) (k : Nat) : (ded (l.take k)).length ≤ k := by
  have := ded_len (l.take k)
  simp at this
  omega

/-- of two that follow each other in G, the first has its first place in l before the second's -/
def Ahead (l : List ByteArray) (s t : ByteArray) : Prop := ∀ m n, IdxIs l s m → IdxIs l t n → m < n

theorem idx_append {l : List ByteArray} {s x : ByteArray} {n : Int} (hs : s ∈ l) (h : IdxIs (l ++ [x]) s n) : IdxIs l s n := by
  rcases h with ⟨rfl, h⟩ | ⟨i, rfl, h1, h2, h3⟩
  · exact absurd (List.mem_append_left _ hs) h
  · by_cases hi : i < l.length
    · refine Or.inr ⟨i, rfl, hi, ?_, ?_⟩
      · rw [← h2, List.getD, List.getD, List.getElem?_append_left hi]
      · rwa [List.take_append_of_le_length (by omega)] at h3
    · exfalso
      apply h3
      rw [List.mem_take_iff_getElem]
      obtain ⟨j, hj, he⟩ := List.mem_iff_getElem.1 hs
      refine ⟨j, by simp; omega, ?_⟩
      rw [List.getElem_append_left hj]
      exact he

theorem idx_last {l : List ByteArray} {x : ByteArray} {n : Int} (hx : x ∉ l) (h : IdxIs (l ++ [x]) x n) : n = l.length := by
  rcases h with ⟨_, h⟩ | ⟨i, rfl, h1, h2, _⟩
  · exact absurd (by simp) h
  · by_cases hi : i < l.length
    · exfalso
      apply hx
      rw [← h2, List.getD, List.getElem?_append_left hi, List.getElem?_eq_getElem hi]
      exact List.getElem_mem hi
    · simp at h1
      omega

theorem idx_lt {l : List ByteArray} {x : ByteArray} {n : Int} (h : IdxIs l x n) : n < l.length := by
  rcases h with ⟨rfl, _⟩ | ⟨i, rfl, h1, _⟩ <;> omega
theorem idx_nonneg {l : List ByteArray} {x : ByteArray} {n : Int} (hx : x ∈ l) (h : IdxIs l x n) : 0 ≤ n := by
  rcases h with ⟨rfl, h⟩ | ⟨i, rfl, _⟩
  · exact absurd hx h
  · omega
theorem idx_neg {l : List ByteArray} {x : ByteArray} {n : Int} (hx : x ∉ l) (h : IdxIs l x n) : n = -1 := by
  rcases h with ⟨rfl, h⟩ | ⟨i, rfl, h1, h2, _⟩
  · rfl
  · exact absurd (h2 ▸ getD_mem h1) hx

theorem ded_ahead (l : List ByteArray) : (ded l).Pairwise (Ahead l) := by
  refine snoc_ind (p := fun l => (ded l).Pairwise (Ahead l)) List.Pairwise.nil (fun l x ih => ?_) l
  have up : (ded l).Pairwise (Ahead (l ++ [x])) := by
    refine List.Pairwise.imp_of_mem (fun {s t} hs ht h m n hm hn => ?_) ih
    exact h m n (idx_append ((mem_ded l s).1 hs) hm) (idx_append ((mem_ded l t).1 ht) hn)
  rw [ded_snoc]
  cases h : inB (ded l) x
  · rw [addS_miss h]
    rw [List.pairwise_append]
    refine ⟨up, by simp, fun s hs t ht => ?_⟩
    have : t = x := by simpa using ht
    subst this
    intro m n hm hn
    have hx : t ∉ l := fun hm => inB_false.1 h ((mem_ded l t).2 hm)
    have e := idx_last hx hn
    have := idx_lt (idx_append ((mem_ded l s).1 hs) hm)
    omega
  · rw [addS_hit h]
    exact up

theorem idx_exists (l : List ByteArray) (x : ByteArray) : ∃ n, IdxIs l x n := by
  refine snoc_ind (p := fun l => ∃ n, IdxIs l x n) ⟨-1, Or.inl ⟨rfl, by simp⟩⟩ (fun l y ih => ?_) l
  obtain ⟨n, h⟩ := ih
  rcases h with ⟨rfl, h⟩ | ⟨i, rfl, h1, h2, h3⟩
  · cases e : inB [y] x
    · exact ⟨-1, Or.inl ⟨rfl, by simpa [h] using inB_false.1 e⟩⟩
    · have : x = y := by simpa using inB_iff.1 e
      subst this
      exact ⟨l.length, Or.inr ⟨l.length, rfl, by simp, by simp [List.getD], by simpa using h⟩⟩
  · exact ⟨i, Or.inr ⟨i, rfl, by simp; omega, by rw [← h2, List.getD, List.getD, List.getElem?_append_left h1], by rwa [List.take_append_of_le_length (by omega)]⟩⟩

theorem ded_apart (l : List ByteArray) : (ded l).Pairwise (· ≠ ·) := by
  refine List.Pairwise.imp_of_mem (fun {s t} hs ht h e => ?_) (ded_ahead l)
  subst e
  obtain ⟨n, hn⟩ := idx_exists l s
  have := h n n hn hn
  omega

/-- nothing to strike in a list that holds nothing twice -/
theorem ded_of_apart (l : List ByteArray) : l.Pairwise (· ≠ ·) → ded l = l := by
  refine snoc_ind (p := fun l => l.Pairwise (· ≠ ·) → ded l = l) (fun _ => rfl) (fun l x ih h => ?_) l
  rw [List.pairwise_append] at h
  rw [ded_snoc, ih h.1, addS_miss]
  rw [inB_false]
  intro hx
  exact h.2.2 x hx x (by simp) rfl

theorem ded_ded (l : List ByteArray) : ded (ded l) = ded l := ded_of_apart _ (ded_apart l)

theorem pairwise_at {l : List ByteArray} {R : ByteArray → ByteArray → Prop} (h : l.Pairwise R) {k : Nat} (hk : k + 1 < l.length) : R (l.getD k ByteArray.empty) (l.getD (k + 1) ByteArray.empty) := by
  have := List.pairwise_iff_getElem.1 h k (k + 1) (by omega) hk (by omega)
  rwa [List.getD, List.getD, List.getElem?_eq_getElem (by omega), List.getElem?_eq_getElem hk]
end Go.Proofs.Qxb6001664a
