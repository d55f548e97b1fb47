import Derived.Test.Qxb6600341aBy
namespace Go.Proofs.Qxb6600341a
open Go.RowKit
theorem neq_nil (w : World) (a : Option Addr) (l c : Nat) : (binOp .neq 31 (.slice a l c) (.slice none 0 0)).run Try.prog w = .ok (.bool (!a.isNone)) w := by
  have h : ∀ d, (Op.equalIn (d + 1) 31 (.slice a l c) (.slice none 0 0)).run Try.prog w = .ok a.isNone w := by
    intro d
    cases a <;> simp [Op.equalIn, run_underlying Try.underlying31]
  have h2 : (Op.equal 31 (.slice a l c) (.slice none 0 0)).run Try.prog w = .ok a.isNone w := h 9999
  simp [binOp, h2]

theorem add0 (B k : Nat) : (⟨B, 0, none⟩ : Addr).add k = ⟨B, k, none⟩ := by unfold Addr.add; split <;> simp_all
def keyc (b6 : Nat) (x : Key) (i : Nat) : Value := (keyCells1 b6 x).getD i undef
theorem keyc_new (w : World) (b6 lo hi : Nat) (m fr z : Int) (hz : z = ((hi - lo : Nat) : Int)) :
    Blk (w.alloc (.cells #[.int .u32 m, .slice (some ⟨b6, lo, none⟩) (hi - lo) (hi - lo), .int .i64 z, .int .i64 fr] 57 (0, 0))) w.heap.size 57 4 (keyc b6 ⟨m, lo, hi, fr⟩) := by
  subst hz
  exact blk_new w 57 4 (keyc b6 ⟨m, lo, hi, fr⟩)
theorem keyc_fr (b6 lo hi : Nat) (m fr fr' : Int) (i : Nat) (hi4 : i < 4) : upd (keyc b6 ⟨m, lo, hi, fr⟩) 3 (.int .i64 fr') i = keyc b6 ⟨m, lo, hi, fr'⟩ i := by
  unfold upd
  match i, hi4 with
  | 0, _ | 1, _ | 2, _ | 3, _ => rfl

section
variable {w : World} {W : Option Addr} {n : Nat} {F : Nat → Int} {b1 b2 b3 b4 b6 S at' : Nat} {ks : List Key} {ao : Option Addr} {ck : Nat} {wr wr' : World}
/-- the block of the key that is being made is none of the search's -/
structure Far (w : World) (b1 b6 S : Nat) (ao : Option Addr) (KB : Nat) : Prop where
  make ::
  ge : w.heap.size ≤ KB
  fps : b1 < KB
  nums : b6 < KB
  box : S < KB
  own : ∀ g, ao = some g → g.block < KB
theorem L3.far (h : L3 w W n F b1 b2 b3 b4 b6 S at' ks ao ck wr) : Far w b1 b6 S ao wr.heap.size := ⟨h.below.size, h.fps.lt, h.nums.lt, h.box.lt, fun g e => (h.ownLt g e).2⟩
theorem grown_set (wr : World) (B k : Nat) (v : Value) : wr.grownBy (wr.setCell ⟨B, k, none⟩ v) (some B) :=
  ⟨rfl, rfl, rfl, by simp, fun j _ hj => Below.heap_setCell _ _ _ _ (fun e => hj (by rw [e]))⟩
theorem L3.keyset (h : L3 w W n F b1 b2 b3 b4 b6 S at' ks ao ck wr) {KB : Nat} (hf : Far w b1 b6 S ao KB) (v : Value) : L3 w W n F b1 b2 b3 b4 b6 S at' ks ao ck (wr.setCell ⟨KB, 3, none⟩ v) :=
  h.kept (grown_set wr KB 3 v) (by have := hf.fps; simp; omega) (by have := hf.nums; simp; omega) (by have := hf.box; simp; omega) (fun g e => by have := hf.own g e; simp; omega) (fun k hk => by cases hk; exact hf.ge)
theorem L3.drew (h : L3 w W n F b1 b2 b3 b4 b6 S at' ks ao ck wr) : L3 w W n F b1 b2 b3 b4 b6 S at' ks ao ck wr.drew := h.dr ⟨1, rfl⟩

theorem own_apart {base m len e ck : Nat} {xs : List Value} {g : Nat → Value} {B : Nat} (h : wr.ownsRow base 57 4 (.slice ao len ck) len xs) (hB : Blk wr B e m g) (he : e ≠ 57) : ∀ x, ao = some x → x.block ≠ B := by
  intro x hx hxB
  subst hx
  rcases h.2 with ⟨h0, _⟩ | ⟨b, cap, cur, hv, _, hb, _⟩
  · cases h0
  · cases hv
    unfold Blk at hB
    simp only at hxB
    rw [hxB, hB] at hb
    simp only [Option.some.injEq, Obj.cells.injEq] at hb
    exact he hb.2.1
theorem L3.row (h : L3 w W n F b1 b2 b3 b4 b6 S at' ks ao ck wr) {b : Nat} (hb : ∀ g, ao = some g → g.block ≠ b) : Value.ownBlock (.slice ao ks.length ck) ≠ some b := by
  cases ao with
  | none => simp [Value.ownBlock]
  | some g => simpa [Value.ownBlock] using hb g rfl
theorem L3.boxOn (h : L3 w W n F b1 b2 b3 b4 b6 S at' ks ao ck wr) (hg : wr.grownBy wr' (Value.ownBlock (.slice ao ks.length ck))) : Blk wr' S 55 12 (cellsS W n b1 b2 b3 b4 (.slice ao ks.length ck)) :=
  h.box.kept hg (h.row fun g e => (h.apart g e).2.2)
theorem L3.push2 (h : L3 w W n F b1 b2 b3 b4 b6 S at' ks ao ck wr) (hge : w.heap.size ≤ S) {o : Obj} {w2 : World} {ao' : Option Addr} {ck' tq : Nat} {x : Key}
    (hK : Keyed n F tq (ks ++ [x]))
    (hown : w2.ownsRow w.heap.size 57 4 (.slice ao' (ks.length + 1) ck') (ks.length + 1) (keyCells b6 ks ++ keyCells1 b6 x)) (hg : (wr.alloc o).grownBy w2 (Value.ownBlock (.slice ao ks.length ck))) :
    L3 w W n F b1 b2 b3 b4 b6 S tq (ks ++ [x]) ao' ck' (w2.setCell ⟨S, 6, none⟩ (.slice ao' (ks.length + 1) ck')) :=
  h.push hge hK hown hg fun g e =>
    ⟨own_apart hown ((h.alloc o).fps.kept hg (h.row fun g e => (h.apart g e).1)) (by decide) g e,
     own_apart hown ((h.alloc o).nums.kept hg (h.row fun g e => (h.apart g e).2.1)) (by decide) g e,
     own_apart hown ((h.alloc o).boxOn hg) (by decide) g e⟩
theorem keyc_news (wr : World) (b6 : Nat) (x : Key) (KB : Nat) (h : Blk wr KB 57 4 (keyc b6 x)) : ∀ j u, (keyCells1 b6 x)[j]? = some u → wr.cell? ((⟨KB, 0, none⟩ : Addr).add j) = some u := by
  intro j u hj
  have hj4 : j < 4 := by
    have := (List.getElem?_eq_some_iff.1 hj).1
    simpa [keyCells1] using this
  rw [add0, h.cell hj4]
  unfold keyc
  rw [List.getD, hj]; rfl
theorem keyc_one (b6 : Nat) (x : Key) : ∀ u ∈ keyCells1 b6 x, u.oneCell' = true := by
  intro u hu
  simp only [keyCells1, List.mem_cons, List.not_mem_nil, or_false] at hu
  rcases hu with rfl | rfl | rfl | rfl <;> rfl

/-- what newNumberSearch hands back -/
structure Found (w : World) (n : Nat) (F : Nat → Int) (b1 b6 S : Nat) (ks : List Key) (ao : Option Addr) (ck : Nat) (v2 v3 v4 : Value) (wr : World) : Prop where
  make ::
  fps : ∀ i, i < n → wr.cell? ⟨b1, i, none⟩ = some (.int .u32 (F i))
  nums : ∀ i, i < n → wr.cell? ⟨b6, i, none⟩ = some (.int .i64 (nat n F i : Int))
  s1 : wr.cell? ⟨S, 1, none⟩ = some (.slice (some ⟨b1, 0, none⟩) n n)
  s2 : wr.cell? ⟨S, 2, none⟩ = some v2
  s3 : wr.cell? ⟨S, 3, none⟩ = some v3
  s4 : wr.cell? ⟨S, 4, none⟩ = some v4
  s5 : wr.cell? ⟨S, 5, none⟩ = some (.int .i64 0)
  s6 : wr.cell? ⟨S, 6, none⟩ = some (.slice ao ks.length ck)
  s7 : wr.cell? ⟨S, 7, none⟩ = some (.int .i64 0)
  keys : ∀ j x, ks[j]? = some x → ∃ g, ao = some ⟨g, 0, none⟩ ∧ wr.cell? ⟨g, j * 4, none⟩ = some (.int .u32 x.m) ∧ wr.cell? ⟨g, j * 4 + 1, none⟩ = some (.slice (some ⟨b6, x.lo, none⟩) (x.hi - x.lo) (x.hi - x.lo)) ∧
    wr.cell? ⟨g, j * 4 + 2, none⟩ = some (.int .i64 ((x.hi - x.lo : Nat) : Int)) ∧ wr.cell? ⟨g, j * 4 + 3, none⟩ = some (.int .i64 x.fr)
  keyed : Keyed n F n ks
  below : Below w.heap.size w wr
  ge : w.heap.size ≤ b1 ∧ w.heap.size ≤ b6 ∧ w.heap.size ≤ S

def Search (w : World) (n : Nat) (F : Nat → Int) (e : Ending) (w' : World) : Prop :=
  ∃ b1 b6 S ks ao ck v2 v3 v4, e = .returned (.pointer (some ⟨S, 0, none⟩)) ∧ Found w n F b1 b6 S ks ao ck v2 v3 v4 w'

theorem L3.found (h : L3 w W n F b1 b2 b3 b4 b6 S n ks ao ck wr) (hge : w.heap.size ≤ b1 ∧ w.heap.size ≤ b6 ∧ w.heap.size ≤ S) :
    Found w n F b1 b6 S ks ao ck (.slice (some ⟨b2, 0, none⟩) n n) (.slice (some ⟨b3, 0, none⟩) n n) (.slice (some ⟨b4, 0, none⟩) n n) wr := by
  refine ⟨fun i hi => h.fps.cell hi, fun i hi => h.nums.cell hi, h.box.cell (k := 1) (by omega), h.box.cell (k := 2) (by omega), h.box.cell (k := 3) (by omega), h.box.cell (k := 4) (by omega), h.box.cell (k := 5) (by omega), h.box.cell (k := 6) (by omega), h.box.cell (k := 7) (by omega), ?_, h.keyed, h.below, hge⟩
  intro j x hj
  obtain ⟨ao', ck', hv, hao⟩ := own_form h.own
  cases hv
  cases ao with
  | none =>
    rcases h.own.2 with ⟨_, h0⟩ | ⟨g, _, _, hv, _⟩
    · rw [List.getElem?_eq_none (by omega)] at hj; cases hj
    · cases hv
  | some g =>
    obtain ⟨_, _, hg⟩ := hao g rfl
    have hadd := add0
    refine ⟨g.block, congrArg some hg, ?_, ?_, ?_, ?_⟩
    all_goals
      rw [hg] at h
      have hc := h.own.cells (g := g.block) rfl
    · have := hc (j * 4 + 0) (.int .u32 x.m) (by rw [keyCells_get b6 ks hj (by omega)]; rfl)
      rw [hadd] at this; exact this
    · have := hc (j * 4 + 1) _ (by rw [keyCells_get b6 ks hj (by omega)]; rfl)
      rw [hadd] at this; exact this
    · have := hc (j * 4 + 2) _ (by rw [keyCells_get b6 ks hj (by omega)]; rfl)
      rw [hadd] at this; exact this
    · have := hc (j * 4 + 3) _ (by rw [keyCells_get b6 ks hj (by omega)]; rfl)
      rw [hadd] at this; exact this
end
end Go.Proofs.Qxb6600341a
