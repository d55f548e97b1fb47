import Derived.Test.Qxb6600341aBx
namespace Go.Proofs.Qxb6600341a
open Go.RowKit
theorem Try.info57 : (Try.prog.info? 57).map (fun i => (i.zero, i.size, i.bytes)) = some (some (.agg #[.int .u32 0, .slice none 0 0, .int .i64 0, .int .i64 0]), 4, 48) := by kernel_rfl

/-- a key's four cells -/
def keyCells1 (b6 : Nat) (x : Key) : List Value := [.int .u32 x.m, .slice (some ⟨b6, x.lo, none⟩) (x.hi - x.lo) (x.hi - x.lo), .int .i64 ((x.hi - x.lo : Nat) : Int), .int .i64 x.fr]
def keyCells (b6 : Nat) (ks : List Key) : List Value := ks.flatMap (keyCells1 b6)
theorem keyCells_snoc (b6 : Nat) (ks : List Key) (x : Key) : keyCells b6 (ks ++ [x]) = keyCells b6 ks ++ keyCells1 b6 x := by simp [keyCells]
theorem keyCells_length (b6 : Nat) (ks : List Key) : (keyCells b6 ks).length = ks.length * 4 := by
  induction ks with
  | nil => rfl
  | cons x ks ih => simp only [keyCells, List.flatMap_cons, List.length_append, List.length_cons] at ih ⊢; rw [ih]; simp [keyCells1]; omega
theorem keyCells_get (b6 : Nat) (ks : List Key) {j : Nat} {x : Key} (hj : ks[j]? = some x) {t : Nat} (ht : t < 4) : (keyCells b6 ks)[j * 4 + t]? = (keyCells1 b6 x)[t]? := by
  induction ks generalizing j with
  | nil => simp at hj
  | cons y ks ih =>
    simp only [keyCells, List.flatMap_cons]
    cases j with
    | zero =>
      simp only [List.getElem?_cons_zero, Option.some.injEq] at hj
      subst hj
      rw [List.getElem?_append_left (by simp [keyCells1]; omega)]
      simp
    | succ j =>
      rw [List.getElem?_cons_succ] at hj
      rw [List.getElem?_append_right (by simp [keyCells1]; omega)]
      have := ih hj
      simp only [keyCells] at this
      rw [← this]
      congr 1
      simp [keyCells1]; omega

/-- newNumberSearch's third loop -/
structure L3 (w : World) (W : Option Addr) (n : Nat) (F : Nat → Int) (b1 b2 b3 b4 b6 S at' : Nat) (ks : List Key) (ao : Option Addr) (ck : Nat) (wr : World) : Prop where
  make ::
  fps : Blk wr b1 32 n fun i => .int .u32 (F i)
  nums : Blk wr b6 3 n fun i => .int .i64 (nat n F i : Int)
  box : Blk wr S 55 12 (cellsS W n b1 b2 b3 b4 (.slice ao ks.length ck))
  own : wr.ownsRow w.heap.size 57 4 (.slice ao ks.length ck) ks.length (keyCells b6 ks)
  apart : ∀ g, ao = some g → g.block ≠ b1 ∧ g.block ≠ b6 ∧ g.block ≠ S
  below : Below w.heap.size w wr
  keyed : Keyed n F at' ks

section
variable {w : World} {W : Option Addr} {n : Nat} {F : Nat → Int} {b1 b2 b3 b4 b6 S at' : Nat} {ks : List Key} {ao : Option Addr} {ck : Nat} {wr wr' : World}
theorem L3.kept (h : L3 w W n F b1 b2 b3 b4 b6 S at' ks ao ck wr) {row : Option Nat} (hg : wr.grownBy wr' row) (h1 : row ≠ some b1) (h6 : row ≠ some b6) (hS : row ≠ some S) (ho : ∀ g, ao = some g → row ≠ some g.block) (hb : ∀ k, row = some k → w.heap.size ≤ k) :
    L3 w W n F b1 b2 b3 b4 b6 S at' ks ao ck wr' := by
  refine ⟨h.fps.kept hg h1, h.nums.kept hg h6, h.box.kept hg hS, h.own.kept hg ?_, h.apart, h.below.grown hg h.below.size hb, h.keyed⟩
  cases ao with
  | none => exact .inl rfl
  | some g => exact .inr (fun e => ho g rfl e.symm)
theorem L3.dr (h : L3 w W n F b1 b2 b3 b4 b6 S at' ks ao ck wr) (hd : Dr wr wr') : L3 w W n F b1 b2 b3 b4 b6 S at' ks ao ck wr' :=
  h.kept (hd.grown none) (by simp) (by simp) (by simp) (by simp) (by simp)
theorem L3.alloc (h : L3 w W n F b1 b2 b3 b4 b6 S at' ks ao ck wr) (o : Obj) : L3 w W n F b1 b2 b3 b4 b6 S at' ks ao ck (wr.alloc o) :=
  h.kept (World.grownBy_alloc _ o none) (by simp) (by simp) (by simp) (by simp) (by simp)
theorem L3.ownLt (h : L3 w W n F b1 b2 b3 b4 b6 S at' ks ao ck wr) : ∀ g, ao = some g → w.heap.size ≤ g.block ∧ g.block < wr.heap.size := by
  intro g hg
  subst hg
  exact h.own.lt g.block rfl
/-- a write into a block that is none of the search's -/
theorem L3.key (h : L3 w W n F b1 b2 b3 b4 b6 S at' ks ao ck wr) (o : Obj) (hg : (wr.alloc o).grownBy wr' (some wr.heap.size)) : L3 w W n F b1 b2 b3 b4 b6 S at' ks ao ck wr' := by
  have l1 := h.fps.lt; have l6 := h.nums.lt; have lS := h.box.lt
  exact (h.alloc o).kept hg (by simp; omega) (by simp; omega) (by simp; omega) (fun g e => by have := (h.ownLt g e).2; simp; omega) (fun k hk => by cases hk; exact h.below.size)

theorem cellsS_six (W : Option Addr) (n b1 b2 b3 b4 : Nat) (v v' : Value) (i : Nat) : upd (cellsS W n b1 b2 b3 b4 v) 6 v' i = cellsS W n b1 b2 b3 b4 v' i := by
  unfold upd
  by_cases h : i = 6
  · subst h; simp [cellsS]
  · rw [if_neg h]
    match i, h with
    | 0, _ | 1, _ | 2, _ | 3, _ | 4, _ | 5, _ => rfl
    | 6, h => exact absurd rfl h
    | 7, _ | 8, _ | 9, _ | 10, _ | 11, _ => rfl
    | (i + 12), _ => simp [cellsS, List.getD]

theorem own_form {base e size n : Nat} {v : Value} {xs : List Value} (h : wr.ownsRow base e size v n xs) : ∃ ao ck, v = .slice ao n ck ∧ ∀ g, ao = some g → base ≤ g.block ∧ g.off = 0 ∧ g = ⟨g.block, 0, none⟩ := by
  rcases h.2 with ⟨rfl, rfl⟩ | ⟨g, cap, cur, rfl, hb, _⟩
  · exact ⟨none, 0, rfl, fun g h => by cases h⟩
  · exact ⟨_, cap, rfl, fun g h => by cases h; exact ⟨hb, rfl, rfl⟩⟩

/-- behind the append -/
theorem L3.push (h : L3 w W n F b1 b2 b3 b4 b6 S at' ks ao ck wr) (hge : w.heap.size ≤ S) {o : Obj} {w2 : World} {ao' : Option Addr} {ck' tq : Nat} {x : Key}
    (hK : Keyed n F tq (ks ++ [x]))
    (hown : w2.ownsRow w.heap.size 57 4 (.slice ao' (ks.length + 1) ck') (ks.length + 1) (keyCells b6 ks ++ keyCells1 b6 x)) (hg : (wr.alloc o).grownBy w2 (Value.ownBlock (.slice ao ks.length ck)))
    (hap : ∀ g, ao' = some g → g.block ≠ b1 ∧ g.block ≠ b6 ∧ g.block ≠ S) :
    L3 w W n F b1 b2 b3 b4 b6 S tq (ks ++ [x]) ao' ck' (w2.setCell ⟨S, 6, none⟩ (.slice ao' (ks.length + 1) ck')) := by
  have h2 := h.alloc o
  have hrow : ∀ b, (∀ g, ao = some g → g.block ≠ b) → Value.ownBlock (.slice ao ks.length ck) ≠ some b := by
    intro b hb
    cases ao with
    | none => simp [Value.ownBlock]
    | some g => simpa [Value.ownBlock] using hb g rfl
  have q1 := h2.fps.kept hg (hrow _ fun g e => (h.apart g e).1)
  have q6 := h2.nums.kept hg (hrow _ fun g e => (h.apart g e).2.1)
  have qS := h2.box.kept hg (hrow _ fun g e => (h.apart g e).2.2)
  have hne1 : S ≠ b1 := by
    intro e
    have a := h.fps; have b := h.box
    unfold Blk at a b
    rw [e] at b
    rw [a] at b
    simp at b
  have hne6 : S ≠ b6 := by
    intro e
    have a := h.nums; have b := h.box
    unfold Blk at a b
    rw [e] at b
    rw [a] at b
    simp at b
  have hlen : (ks ++ [x]).length = ks.length + 1 := by simp
  refine ⟨q1.other hne1 _ _, q6.other hne6 _ _, ?_, ?_, hap, ?_, hK⟩
  · rw [hlen]
    exact (qS.set 6 _).congr (fun i _ => cellsS_six _ _ _ _ _ _ _ _ i)
  · rw [hlen, keyCells_snoc]
    refine hown.kept (row := some S) ?_ ?_
    · exact ⟨rfl, rfl, rfl, by simp, fun k _ hk => Below.heap_setCell _ _ _ _ (fun e => hk (by rw [e]))⟩
    · cases ao' with
      | none => exact .inl rfl
      | some g => exact .inr (by have := (hap g rfl).2.2; simpa [Value.ownBlock] using this)
  · refine Below.setCell (h2.below.grown hg h2.below.size ?_) hge _
    intro k hk
    cases ao with
    | none => simp [Value.ownBlock] at hk
    | some g => simp only [Value.ownBlock, Option.some.injEq] at hk; subst hk; exact (h.ownLt g rfl).1
end
end Go.Proofs.Qxb6600341a
