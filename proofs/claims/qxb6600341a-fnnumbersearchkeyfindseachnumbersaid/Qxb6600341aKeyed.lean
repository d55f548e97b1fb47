import Derived.Test.Qxb6600341aKeys
namespace Go.Proofs.Qxb6600341a
open Go.RowKit

/-- one key: its mark, its places from lo to hi, where it is sought from -/
structure Key where
  make ::
  m : Int
  lo : Nat
  hi : Nat
  fr : Int

/-- the keys of the places below at -/
structure Keyed (n : Nat) (F : Nat → Int) (at' : Nat) (ks : List Key) : Prop where
  make ::
  le : at' ≤ n
  group : ∀ x ∈ ks, Group n F x.m x.lo x.hi ∧ x.hi ≤ at'
  asc : ks.Pairwise fun x y => x.m < y.m
  all : ∀ j, j < at' → ∃ x ∈ ks, x.m = mark n F j
  edge : ∀ j, j < at' → at' < n → mark n F j < mark n F at'
  few : ks.length ≤ at'

theorem Keyed.nil (n : Nat) (F : Nat → Int) : Keyed n F 0 [] :=
  ⟨Nat.zero_le _, fun x hx => (by cases hx), List.Pairwise.nil, fun j hj => absurd hj (by omega), fun j hj => absurd hj (by omega), Nat.le_refl _⟩

theorem Keyed.step {n : Nat} {F : Nat → Int} (hn : n ≤ 4096) {at' : Nat} {ks : List Key} (h : Keyed n F at' ks) {to : Nat} (h1 : at' < to) (h2 : to ≤ n)
    (heq : ∀ j, at' ≤ j → j < to → mark n F j = mark n F at') (hend : to < n → mark n F to ≠ mark n F at') (f : Int) :
    Keyed n F to (ks ++ [⟨mark n F at', at', to, f⟩]) ∧ Group n F (mark n F at') at' to := by
  have hG : Group n F (mark n F at') at' to := by
    refine ⟨h1, h2, heq, fun j hj => h.edge j hj (by omega), fun j hj hjn => ?_⟩
    have h3 : mark n F at' ≤ mark n F to := mark_le hn (Nat.le_of_lt h1) (by omega)
    have h4 := hend (by omega)
    have h5 : mark n F to ≤ mark n F j := mark_le hn hj hjn
    omega
  refine ⟨⟨h2, fun x hx => ?_, ?_, fun j hj => ?_, fun j hj hto => ?_, ?_⟩, hG⟩
  · rcases List.mem_append.1 hx with hx | hx
    · exact ⟨(h.group x hx).1, by have := (h.group x hx).2; omega⟩
    · simp only [List.mem_singleton] at hx; subst hx; exact ⟨hG, Nat.le_refl _⟩
  · rw [List.pairwise_append]
    refine ⟨h.asc, List.pairwise_singleton _ _, fun x hx y hy => ?_⟩
    simp only [List.mem_singleton] at hy; subst hy
    obtain ⟨hg, hle⟩ := h.group x hx
    have := h.edge x.lo (by have := hg.lt; omega) (by omega)
    rw [hg.eq x.lo (Nat.le_refl _) hg.lt] at this
    exact this
  · by_cases hlt : j < at'
    · obtain ⟨x, hx, he⟩ := h.all j hlt
      exact ⟨x, List.mem_append_left _ hx, he⟩
    · exact ⟨_, List.mem_append_right _ (List.mem_singleton.2 rfl), (heq j (by omega) hj).symm⟩
  · have h3 : mark n F at' ≤ mark n F to := mark_le hn (Nat.le_of_lt h1) (by omega)
    have h4 := hend (by omega)
    have h5 : mark n F j ≤ mark n F at' := by
      by_cases hlt : j < at'
      · exact mark_le hn (Nat.le_of_lt hlt) (by omega)
      · rw [heq j (by omega) hj]; exact Int.le_refl _
    omega
  · have := h.few
    simp only [List.length_append, List.length_singleton]; omega

/-- a mark is a key's if and only if a number has it -/
theorem Keyed.has {n : Nat} {F : Nat → Int} (hn : n ≤ 4096) {ks : List Key} (h : Keyed n F n ks) {i : Nat} (hi : i < n) : ∃ x ∈ ks, x.m = mk (F i) := by
  have hp : i ∈ nats n F := (nats_perm n F hn).mem_iff.2 (List.mem_range.2 hi)
  unfold nats at hp
  obtain ⟨j, hj, he⟩ := List.mem_map.1 hp
  obtain ⟨x, hx, hm⟩ := h.all j (List.mem_range.1 hj)
  refine ⟨x, hx, ?_⟩
  rw [hm]; unfold mark; rw [he]
theorem Keyed.having {n : Nat} {F : Nat → Int} (hn : n ≤ 4096) {ks : List Key} (h : Keyed n F n ks) {m : Int} (hno : ∀ x ∈ ks, x.m ≠ m) : having n F m = [] := by
  unfold Qxb6600341a.having
  rw [List.filter_eq_nil_iff]
  intro a ha
  obtain ⟨x, hx, he⟩ := h.has hn (List.mem_range.1 ha)
  have := hno x hx
  rw [he] at this
  simpa using this
end Go.Proofs.Qxb6600341a
