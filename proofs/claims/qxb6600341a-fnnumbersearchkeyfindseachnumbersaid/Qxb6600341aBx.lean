import Derived.Test.Qxb6600341aBox
import Derived.Test.Qxb6600341aKeyed
namespace Go.Proofs.Qxb6600341a
open Go.RowKit
theorem Try.info66 : (Try.prog.info? 66).map (fun i => (i.zero, i.size, i.bytes)) = some (some (.int .u64 0), 1, 8) := by kernel_rfl

theorem pack (x : Int) (i : Nat) (hi : i < 4096) :
    bits BinOp.or IntKind.u64 (IntKind.u64.wrap (IntKind.u64.wrap (mk x) * 4294967296)) (i : Int) = mk x * 4294967296 + (i : Int) := by
  obtain ⟨h0, h1⟩ := mk_bounds x
  obtain ⟨m, hm⟩ := Int.eq_ofNat_of_zero_le h0
  rw [hm] at h0 h1 ⊢
  have e1 : IntKind.u64.wrap (m : Int) = m := by rw [IntKind.wrap_u64]; omega
  rw [e1]
  have e2 : IntKind.u64.wrap ((m : Int) * 4294967296) = ((m * 4294967296 : Nat) : Int) := by rw [IntKind.wrap_u64]; omega
  rw [e2, u64_or_nat _ _ (by omega) (by omega)]
  have e3 : m * 4294967296 ||| i = m * 4294967296 + i := by
    have h := Nat.shiftLeft_add_eq_or_of_lt (show i < 2 ^ 32 by omega) m
    rw [Nat.shiftLeft_eq] at h
    exact h.symm
  rw [e3]
  omega

theorem Blk.kept {w w' : World} {B e n : Nat} {g : Nat → Value} {row : Option Nat} (h : Blk w B e n g) (hg : w.grownBy w' row) (hne : row ≠ some B) : Blk w' B e n g := by
  have hl := h.lt
  unfold Blk at h ⊢
  rw [hg.block B hl (fun e => hne e.symm)]
  exact h

/-! ### behind the sort -/
theorem blk_holds {w : World} {B e n : Nat} {zs : List Int} (h : Blk w B e n fun i => .int .u64 (zs.getD i 0)) (hl : zs.length = n) : Sort.Holds (Value.int .u64) w B 0 zs.toArray := by
  intro j hj
  have hj' : j < zs.length := by simpa using hj
  rw [Nat.zero_add]
  refine ⟨?_, h.frozen j⟩
  rw [h.cell (by omega)]
  simp [hj', List.getD]
theorem grownBy_sortedU {w : World} {g n : Nat} {os : Array Obj} (d : Array Int) : w.grownBy (Sort.grow (Sort.putRow (Value.int .u64) (Sort.ahead w n) g 0 d) os) (some g) := by
  refine ⟨rfl, rfl, rfl, by simp, fun k hk hne => ?_⟩
  have : g ≠ k := fun e => hne (by rw [e])
  simp only [Sort.grow]
  rw [Array.getElem?_append_left (by simpa using hk)]
  simp [Sort.putRow, Sort.mapBlock, Sort.ahead, Array.getElem?_modify, this]
theorem blk_sorted {w : World} {B e n N : Nat} {g : Nat → Value} {os : Array Obj} (ts : List Int) (hl : ts.length = n) (h : Blk w B e n g) :
    Blk (Sort.grow (Sort.putRow (Value.int .u64) (Sort.ahead w N) B 0 ts.toArray) os) B e n fun i => .int .u64 (ts.getD i 0) := by
  have hlt := h.lt
  unfold Blk at h ⊢
  simp only [Sort.grow]
  rw [Array.getElem?_append_left (by simpa using hlt)]
  simp only [Sort.putRow, Sort.mapBlock, Sort.ahead, Array.getElem?_modify, if_true, h, Option.map_some, Sort.onCells]
  congr 2
  apply Array.toList_inj.1
  apply List.ext_getElem?
  intro i
  rw [Array.getElem?_toList]
  by_cases hi : i < n
  · have h1 := cellsOf_at (fun i => Value.int .u64 (ts.getD i 0)) hi
    have h2 := cellsOf_at g hi
    simp only [Sort.putCells, Array.getElem?_mapIdx, List.getElem?_toArray, h1, h2, Option.map_some]
    simp [hl, hi, List.getD]
  · rw [Array.getElem?_eq_none (by simp [Sort.putCells, cellsOf_length]; omega), List.getElem?_eq_none (by simp [cellsOf_length]; omega)]

/-- append of the call's own, as one step of a region that draws -/
theorem step_append_own {P : Program} {ops : Array Oper} {o : Oper} {a : Act} {w : World} {K : Act → World → Prop} {Q : Exit → Act → World → Prop} {E : Prop}
    (hg : o.guard = none) (s x : Operand) (t : TypeId) (hop : o.op = Op.call { callee := Callee.builtin Builtin.append, args := #[s, x], argTypes := #[t, t] })
    (base : Nat) (e : TypeId) (i : TypeInfo) (z : Value) (size bytes : Nat) (ht : P.underlying t = some (.slice e)) (hi : P.info? e = some i) (hz : i.zero = some z)
    (hsize : i.size = size) (hby : i.bytes = bytes) (hzs : z.cells.size = size) (hsz : 0 < size)
    (v : Value) (n : Nat) (xs : List Value) (hs : a.eval s = v) (hown : w.ownsRow base e size v n xs)
    (ad : Addr) (m c : Nat) (news : List Value) (hx : a.eval x = .slice (some ad) m c) (hl : news.length = m * size) (hnews : ∀ j u, news[j]? = some u → w.cell? (ad.add j) = some u) (h1 : ∀ u ∈ news, u.oneCell' = true)
    (h63 : n + m ≤ maxLen) (hbytes : (n + m) * bytes ≤ 140737488355328) (hbase : base ≤ w.heap.size)
    (h : ∀ v' w', w'.ownsRow base e size v' (n + m) (xs ++ news) → w.grownBy w' v.ownBlock → K (a.put o.dst v') w') :
    if Region.wanted o (yielded ops a.tmps) = true then Oper.wp P o a w K Q else E := by
  have hw : Region.wanted o (yielded ops a.tmps) = true := by simp [Region.wanted, hg]
  rw [if_pos hw]
  exact wp_append_own w s x t hop base e i z size bytes ht hi hz hsize hby hzs hsz v n xs hs hown ad m c news hx hl hnews h1 h63 hbytes hbase fun v' w' h2 h3 _ => h v' w' h2 h3

/-- newNumberSearch's first loop, k rounds on -/
structure L1 (w : World) (W : Option Addr) (n : Nat) (F : Nat → Int) (b1 b2 b3 b4 b5 S k : Nat) (wr : World) : Prop where
  make ::
  fps : Blk wr b1 32 n fun i => .int .u32 (if i < k then F i else 0)
  first : ∃ g : Nat → Int, Blk wr b2 3 n fun i => .int .i64 (g i)
  box : Blk wr S 55 12 (cellsS W n b1 b2 b3 b4 (.slice none 0 0))
  marks : Blk wr b5 66 n fun i => .int .u64 (if i < k then mk (F i) * 4294967296 + (i : Int) else 0)
  below : Below w.heap.size w wr
structure M1 (w : World) (W : Option Addr) (n : Nat) (F : Nat → Int) (b1 b2 b3 b4 b5 S k : Nat) (x : Int) (wr : World) : Prop where
  make ::
  fps : Blk wr b1 32 n (upd (fun i => .int .u32 (if i < k then F i else 0)) k (.int .u32 x))
  first : ∃ g : Nat → Int, Blk wr b2 3 n fun i => .int .i64 (g i)
  box : Blk wr S 55 12 (cellsS W n b1 b2 b3 b4 (.slice none 0 0))
  marks : Blk wr b5 66 n fun i => .int .u64 (if i < k then mk (F i) * 4294967296 + (i : Int) else 0)
  below : Below w.heap.size w wr
/-- its second loop, k rounds on -/
structure L2 (w : World) (W : Option Addr) (n : Nat) (F : Nat → Int) (b1 b2 b3 b4 b5 b6 S k : Nat) (wr : World) : Prop where
  make ::
  fps : Blk wr b1 32 n fun i => .int .u32 (F i)
  box : Blk wr S 55 12 (cellsS W n b1 b2 b3 b4 (.slice none 0 0))
  marks : Blk wr b5 66 n fun i => .int .u64 ((sorted n F).getD i 0)
  nums : Blk wr b6 3 n fun i => .int .i64 (if i < k then (nat n F i : Int) else 0)
  below : Below w.heap.size w wr

/-- behind the first loop, the sort and the second make -/
theorem L1.next {w : World} {W : Option Addr} {n : Nat} {F : Nat → Int} {b1 b2 b3 b4 b5 S : Nat} {wr : World} (h : L1 w W n F b1 b2 b3 b4 b5 S n wr) (hlt : b1 < b5 ∧ b2 < b5 ∧ S < b5 ∧ w.heap.size ≤ b5) (N : Nat) (os : Array Obj) :
    L2 w W n F b1 b2 b3 b4 b5 (Sort.grow (Sort.putRow (Value.int .u64) (Sort.ahead wr N) b5 0 (sorted n F).toArray) os).heap.size S 0
      (zeros (Sort.grow (Sort.putRow (Value.int .u64) (Sort.ahead wr N) b5 0 (sorted n F).toArray) os) 3 n (.int .i64 0)) := by
  have hg := grownBy_sortedU (w := wr) (g := b5) (n := N) (os := os) (sorted n F).toArray
  have hsz := hg.size
  have hbs := h.below.size
  refine ⟨((h.fps.kept hg (by simp; omega)).zeros _ _ _).congr (fun i hi => by simp [hi]), (h.box.kept hg (by simp; omega)).zeros _ _ _, (blk_sorted _ (sorted_length n F) h.marks).zeros _ _ _, (blk_zeros _ _ _ _).congr (fun i _ => by simp), ?_⟩
  exact below_zeros (h.below.grown hg hbs (fun k hk => by cases hk; exact hlt.2.2.2)) (by omega) _ _ _
theorem L1.holds {w : World} {W : Option Addr} {n : Nat} {F : Nat → Int} {b1 b2 b3 b4 b5 S : Nat} {wr : World} (h : L1 w W n F b1 b2 b3 b4 b5 S n wr) : Sort.Holds (Value.int .u64) wr b5 0 (packed n F).toArray :=
  blk_holds (e := 66) (n := n) (h.marks.congr (fun i hi => by have := packed_get n F hi; simp [hi, List.getD, this])) (packed_length n F)
end Go.Proofs.Qxb6600341a
