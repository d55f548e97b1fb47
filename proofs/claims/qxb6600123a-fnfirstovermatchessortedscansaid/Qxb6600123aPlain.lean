import Derived.Test.Qxb6600123aSort
namespace Go.Proofs.Qxb6600123a

/-! ### the answer, told without an order -/
def sumC (c : Int → Int) : List Int → Int
  | [] => 0
  | x :: r => c x + sumC c r
def over (p : Int) (l : List Int) : List Int := l.filter fun k => decide (p < k)
/-- (key, ok) is the right answer for the keys l and this room -/
def Ans (c : Int → Int) (room : Int) (l : List Int) (key : Int) (ok : Bool) : Prop :=
  (ok = true ∧ key ∈ l ∧ sumC c (over key l) ≤ room ∧ room < sumC c (over key l) + c key) ∨ (ok = false ∧ key = 0 ∧ sumC c l ≤ room)

theorem sumC_append (c : Int → Int) (a b : List Int) : sumC c (a ++ b) = sumC c a + sumC c b := by
  induction a with
  | nil => simp [sumC]
  | cons x r ih => simp only [List.cons_append, sumC, ih]; omega
theorem sumC_perm (c : Int → Int) {a b : List Int} (h : a.Perm b) : sumC c a = sumC c b := by
  induction h with
  | nil => rfl
  | cons x _ ih => simp only [sumC, ih]
  | swap x y l => simp only [sumC]; omega
  | trans _ _ ih1 ih2 => exact ih1.trans ih2
theorem sumC_nonneg {c : Int → Int} (hc : ∀ k, 0 ≤ c k) (l : List Int) : 0 ≤ sumC c l := by
  induction l with
  | nil => simp [sumC]
  | cons x r ih => have := hc x; simp only [sumC]; omega
theorem sumC_le {c : Int → Int} (hc : ∀ k, c k ≤ 262144) (l : List Int) : sumC c l ≤ 262144 * l.length := by
  induction l with
  | nil => simp [sumC]
  | cons x r ih => have := hc x; simp only [sumC, List.length_cons]; omega

theorem ans_perm {c : Int → Int} {room : Int} {a b : List Int} (h : a.Perm b) {key : Int} {ok : Bool} (ha : Ans c room a key ok) : Ans c room b key ok := by
  have hs := sumC_perm c (h.filter fun k => decide (key < k))
  rcases ha with ⟨h1, h2, h3, h4⟩ | ⟨h1, h2, h3⟩
  · exact Or.inl ⟨h1, h.mem_iff.1 h2, by unfold over at *; omega, by unfold over at *; omega⟩
  · exact Or.inr ⟨h1, h2, by rw [← sumC_perm c h]; exact h3⟩

theorem over_append (p : Int) (a b : List Int) : over p (a ++ b) = over p a ++ over p b := by simp [over]
theorem over_all {p : Int} {l : List Int} (h : ∀ k ∈ l, p < k) : over p l = l := by
  unfold over; rw [List.filter_eq_self]; intro k hk; simpa using h k hk
theorem over_none {p : Int} {l : List Int} (h : ∀ k ∈ l, k ≤ p) : over p l = [] := by
  unfold over; rw [List.filter_eq_nil_iff]; intro k hk; have := h k hk; simp; omega

theorem ans_high {c : Int → Int} {room p : Int} {H Lo : List Int} (hH : ∀ k ∈ H, p < k) (hL : ∀ k ∈ Lo, k < p) (hr : room < sumC c H) {key : Int} {ok : Bool} (h : Ans c room H key ok) : Ans c room (H ++ p :: Lo) key ok := by
  rcases h with ⟨h1, h2, h3, h4⟩ | ⟨_, _, h3⟩
  · have hk := hH key h2
    have e : over key (H ++ p :: Lo) = over key H := by
      rw [over_append, over_none (l := p :: Lo), List.append_nil]
      intro k hk'
      rcases List.mem_cons.1 hk' with rfl | hk'
      · omega
      · have := hL k hk'; omega
    exact Or.inl ⟨h1, by simp [h2], by rw [e]; exact h3, by rw [e]; exact h4⟩
  · omega
theorem ans_mid {c : Int → Int} {room p : Int} {H Lo : List Int} (hH : ∀ k ∈ H, p < k) (hL : ∀ k ∈ Lo, k < p) (h1 : sumC c H ≤ room) (h2 : room < sumC c H + c p) : Ans c room (H ++ p :: Lo) p true := by
  have e : over p (H ++ p :: Lo) = H := by
    rw [over_append, over_all hH, over_none (l := p :: Lo), List.append_nil]
    intro k hk'
    rcases List.mem_cons.1 hk' with rfl | hk'
    · omega
    · have := hL k hk'; omega
  exact Or.inl ⟨rfl, by simp, by rw [e]; exact h1, by rw [e]; exact h2⟩
theorem ans_low {c : Int → Int} {room p : Int} {H Lo : List Int} (hH : ∀ k ∈ H, p < k) (hL : ∀ k ∈ Lo, k < p) {key : Int} {ok : Bool} (h : Ans c (room - (sumC c H + c p)) Lo key ok) : Ans c room (H ++ p :: Lo) key ok := by
  rcases h with ⟨h1, h2, h3, h4⟩ | ⟨h1, h2, h3⟩
  · have hk := hL key h2
    have e : over key (H ++ p :: Lo) = H ++ p :: over key Lo := by
      rw [over_append, over_all (fun k hk' => by have := hH k hk'; omega)]
      congr 1
      simp [over, hk]
    refine Or.inl ⟨h1, by simp [h2], ?_, ?_⟩ <;> rw [e, sumC_append] <;> simp only [sumC] <;> omega
  · refine Or.inr ⟨h1, h2, ?_⟩
    rw [sumC_append]
    simp only [sumC]
    omega

theorem over_mono {c : Int → Int} (hc : ∀ k, 0 ≤ c k) {a b : Int} {l : List Int} (hab : a < b) (hb : b ∈ l) : sumC c (over b l) + c b ≤ sumC c (over a l) := by
  induction l with
  | nil => simp at hb
  | cons x r ih =>
    have sub : ∀ l : List Int, sumC c (over b l) ≤ sumC c (over a l) := by
      intro l
      induction l with
      | nil => simp [over, sumC]
      | cons y s ih2 =>
        have hy := hc y
        have : over b (y :: s) = if b < y then y :: over b s else over b s := by unfold over; rw [List.filter_cons]; simp
        have h2 : over a (y :: s) = if a < y then y :: over a s else over a s := by unfold over; rw [List.filter_cons]; simp
        rw [this, h2]
        by_cases h3 : b < y
        · rw [if_pos h3, if_pos (by omega)]; simp only [sumC]; omega
        · rw [if_neg h3]
          by_cases h4 : a < y
          · rw [if_pos h4]; simp only [sumC]; omega
          · rw [if_neg h4]; exact ih2
    have e1 : over b (x :: r) = if b < x then x :: over b r else over b r := by unfold over; rw [List.filter_cons]; simp
    have e2 : over a (x :: r) = if a < x then x :: over a r else over a r := by unfold over; rw [List.filter_cons]; simp
    rw [e1, e2]
    rcases List.mem_cons.1 hb with rfl | hb
    · have := sub r
      rw [if_neg (by omega), if_pos hab]
      simp only [sumC]
      omega
    · have h1 := ih hb
      have hx := hc x
      by_cases h3 : b < x
      · rw [if_pos h3, if_pos (by omega)]; simp only [sumC]; omega
      · rw [if_neg h3]
        by_cases h4 : a < x
        · rw [if_pos h4]; simp only [sumC]; omega
        · rw [if_neg h4]; exact h1

theorem over_total {c : Int → Int} (hc : ∀ k, 0 ≤ c k) {b : Int} {l : List Int} (hb : b ∈ l) : sumC c (over b l) + c b ≤ sumC c l := by
  obtain ⟨a, ha⟩ : ∃ a, ∀ k ∈ l, a < k := by
    have : ∀ l : List Int, ∃ a, ∀ k ∈ l, a < k := by
      intro l
      induction l with
      | nil => exact ⟨0, by simp⟩
      | cons x r ih =>
        obtain ⟨a, ha⟩ := ih
        refine ⟨min a (x - 1), fun k hk => ?_⟩
        rcases List.mem_cons.1 hk with rfl | hk
        · omega
        · have := ha k hk; omega
    exact this l
  have := over_mono hc (ha b hb) hb
  rwa [over_all ha] at this

/-- there is one answer -/
theorem ans_one {c : Int → Int} (hc : ∀ k, 0 ≤ c k) {room : Int} {l : List Int} {k1 k2 : Int} {o1 o2 : Bool} (h1 : Ans c room l k1 o1) (h2 : Ans c room l k2 o2) : o1 = o2 ∧ k1 = k2 := by
  rcases h1 with ⟨rfl, m1, a1, b1⟩ | ⟨rfl, rfl, a1⟩ <;> rcases h2 with ⟨rfl, m2, a2, b2⟩ | ⟨rfl, rfl, a2⟩
  · refine ⟨rfl, ?_⟩
    rcases Int.lt_trichotomy k1 k2 with h | h | h
    · have := over_mono hc h m2; omega
    · exact h
    · have := over_mono hc h m1; omega
  · have := over_total hc m1; omega
  · have := over_total hc m2; omega
  · exact ⟨rfl, rfl⟩

/-! ### the sorted scan -/
theorem split_at (l : List Int) (k : Nat) (h : k < l.length) : l = l.take k ++ l.getD k 0 :: l.drop (k + 1) := by
  rw [List.getD, List.getElem?_eq_getElem h]
  simp

theorem scan_hit {c : Int → Int} {room : Int} {l : List Int} {k : Nat} (hS : SDesc l) (hk : k < l.length) (h1 : sumC c (l.take k) ≤ room) (h2 : room < sumC c (l.take k) + c (l.getD k 0)) : Ans c room l (l.getD k 0) true := by
  have e := split_at l k hk
  generalize l.getD k 0 = z at *
  generalize l.take k = H at *
  generalize l.drop (k + 1) = Lo at *
  subst e
  unfold SDesc at hS
  rw [List.pairwise_append] at hS
  exact ans_mid (fun x hx => hS.2.2 x hx z (by simp)) (fun x hx => (List.pairwise_cons.1 hS.2.1).1 x hx) h1 h2
theorem scan_miss {c : Int → Int} {room : Int} {l : List Int} (h : sumC c l ≤ room) : Ans c room l 0 false := Or.inr ⟨rfl, rfl, h⟩

theorem sumC_take {c : Int → Int} {l : List Int} {k : Nat} (h : k < l.length) : sumC c (l.take (k + 1)) = sumC c (l.take k) + c (l.getD k 0) := by
  rw [take_snoc l k h, sumC_append]; simp [sumC]

/-! ### the exchange -/
def swap (i j : Nat) (l : List Int) : List Int := (l.set i (l.getD j 0)).set j (l.getD i 0)
theorem swap_length (i j : Nat) (l : List Int) : (swap i j l).length = l.length := by simp [swap]
theorem swap_perm {i j : Nat} {l : List Int} (hi : i < l.length) (hj : j < l.length) : (swap i j l).Perm l := by
  unfold swap
  rw [List.getD, List.getD, List.getElem?_eq_getElem hi, List.getElem?_eq_getElem hj]
  exact List.set_set_perm hi hj
theorem swap_get {i j : Nat} {l : List Int} (hi : i < l.length) (hj : j < l.length) (m : Nat) : (swap i j l).getD m 0 = if m = j then l.getD i 0 else if m = i then l.getD j 0 else l.getD m 0 := by
  unfold swap
  by_cases h1 : m = j
  · subst h1
    simp [List.getD, hj]
  · by_cases h2 : m = i
    · subst h2
      rw [if_neg h1, if_pos rfl]
      simp [List.getD, hi, Ne.symm h1]
    · rw [if_neg h1, if_neg h2]
      simp [List.getD, Ne.symm h1, Ne.symm h2]

/-! ### the partition -/
structure Part (W : List Int) (h t : Nat) (p : Int) : Prop where
  ht : h ≤ t
  tl : t < W.length
  hi : ∀ i, i < h → p < W.getD i 0
  lo : ∀ i, h ≤ i → i < t → W.getD i 0 ≤ p
  lst : W.getD (W.length - 1) 0 = p

theorem part_start {W : List Int} (h : 0 < W.length) : Part W 0 0 (W.getD (W.length - 1) 0) := ⟨Nat.le_refl _, h, fun i hi => by omega, fun i _ hi => by omega, rfl⟩
theorem part_skip {W : List Int} {h t : Nat} {p : Int} (H : Part W h t p) (ht : t + 1 < W.length) (hk : W.getD t 0 ≤ p) : Part W h (t + 1) p :=
  ⟨by have := H.ht; omega, ht, H.hi, fun i h1 h2 => by
    by_cases e : i = t
    · subst e; exact hk
    · exact H.lo i h1 (by omega), H.lst⟩
theorem part_take {W : List Int} {h t : Nat} {p : Int} (H : Part W h t p) (ht : t + 1 < W.length) (hk : p < W.getD t 0) : Part (swap t h W) (h + 1) (t + 1) p := by
  have hh := H.ht
  have s := fun m => swap_get (i := t) (j := h) (l := W) (by omega) (by omega) m
  refine ⟨by omega, by rw [swap_length]; exact ht, fun i hi => ?_, fun i h1 h2 => ?_, ?_⟩
  · rw [s]
    by_cases e : i = h
    · rw [if_pos e]; exact hk
    · rw [if_neg e, if_neg (by omega)]; exact H.hi i (by omega)
  · rw [s, if_neg (by omega)]
    by_cases e : i = t
    · rw [if_pos e]; exact H.lo h (Nat.le_refl _) (by omega)
    · rw [if_neg e]; exact H.lo i (by omega) (by omega)
  · rw [swap_length, s, if_neg (by omega), if_neg (by omega)]; exact H.lst
/-- the pivot laid between the two sides -/
theorem part_end {W : List Int} {h : Nat} {p : Int} (H : Part W h (W.length - 1) p) (hap : W.Pairwise (· ≠ ·)) :
    let V := swap h (W.length - 1) W
    V.Perm W ∧ V.length = W.length ∧ V = V.take h ++ p :: V.drop (h + 1) ∧ (∀ k ∈ V.take h, p < k) ∧ (∀ k ∈ V.drop (h + 1), k < p) := by
  intro V
  have hh := H.ht
  have tl := H.tl
  have s := fun m => swap_get (i := h) (j := W.length - 1) (l := W) (by omega) (by omega) m
  have hp : V.Perm W := swap_perm (by omega) (by omega)
  have hlen : V.length = W.length := swap_length _ _ _
  have hV : V.getD h 0 = p := by
    show (swap h (W.length - 1) W).getD h 0 = p
    rw [s]
    by_cases e : h = W.length - 1
    · rw [if_pos e, e]; exact H.lst
    · rw [if_neg e, if_pos rfl]; exact H.lst
  have hsp := split_at V h (by omega)
  rw [hV] at hsp
  have hapV : V.Pairwise (· ≠ ·) := (hp.symm.pairwise_iff (fun {a b} (h : a ≠ b) => h.symm)).1 hap
  refine ⟨hp, hlen, hsp, fun k hk => ?_, fun k hk => ?_⟩
  · obtain ⟨i, hi, rfl⟩ := List.mem_iff_getElem.1 hk
    rw [List.length_take] at hi
    have hi' : i < h := by omega
    have := H.hi i hi'
    rw [List.getElem_take]
    have e : V[i]'(by omega) = V.getD i 0 := by simp [List.getD, show i < V.length from by omega]
    rw [e]
    show p < (swap h (W.length - 1) W).getD i 0
    rw [s, if_neg (by omega), if_neg (by omega)]
    exact this
  · have hne : k ≠ p := by
      rw [hsp, List.pairwise_append] at hapV
      exact fun e => (List.pairwise_cons.1 hapV.2.1).1 k hk e.symm
    obtain ⟨i, hi, rfl⟩ := List.mem_iff_getElem.1 hk
    rw [List.length_drop] at hi
    rw [List.getElem_drop] at hne ⊢
    have e : V[h + 1 + i]'(by omega) = V.getD (h + 1 + i) 0 := by simp [List.getD, show h + 1 + i < V.length from by omega]
    rw [e] at hne ⊢
    have hle : V.getD (h + 1 + i) 0 ≤ p := by
      show (swap h (W.length - 1) W).getD (h + 1 + i) 0 ≤ p
      rw [s]
      by_cases e : h + 1 + i = W.length - 1
      · rw [if_pos e]; exact H.lo h (Nat.le_refl _) (by omega)
      · rw [if_neg e, if_neg (by omega)]; exact H.lo _ (by omega) (by omega)
    omega
end Go.Proofs.Qxb6600123a
