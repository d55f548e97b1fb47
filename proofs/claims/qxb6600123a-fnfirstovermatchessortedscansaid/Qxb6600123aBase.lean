import Derived.Test.Qxb6600123aRows
import Derived.WalkKit
import Derived.Handy
import Derived.Deep.QuietTactic
import Derived.BigQuiet
import Derived.Deep.RegionWith
import Derived.Lib.SliceRun
namespace Go.Proofs.Qxb6600123a
open Go.RowKit

theorem hide {p : Prop} (h : p) : Hid p := h
theorem val_int {k : IntKind} {a b : Int} (h : a = b) : Value.int k a = .int k b := by rw [h]
theorem ret_bool {a b : Bool} (h : a = b) : Ending.returned (.bool a) = .returned (.bool b) := by rw [h]
def AnyBool (e : Ending) : Prop := ∃ r, e = .returned (.bool r)
theorem anyBool (r : Bool) : AnyBool (.returned (.bool r)) := ⟨r, rfl⟩

/-- A row of ints that a slice leads to: nothing, or cells. -/
def Row (w : World) (a : Option Addr) (zs : List Int) : Prop :=
  zs = [] ∨ ∃ b off, a = some ⟨b, off, none⟩ ∧ ∀ i, i < zs.length → w.cell? ⟨b, off + i, none⟩ = some (.int .i64 (zs.getD i 0))

theorem Row.get {w : World} {a : Option Addr} {zs : List Int} (h : Row w a zs) {k : Nat} (hk : k < zs.length) :
    ∃ b off z, a = some ⟨b, off, none⟩ ∧ z = zs.getD k 0 ∧ w.cell? ⟨b, off + k, none⟩ = some (.int .i64 z) := by
  rcases h with rfl | ⟨b, off, rfl, h⟩
  · simp at hk
  · exact ⟨b, off, _, rfl, rfl, h k hk⟩
theorem Row.below {w w' : World} {a : Option Addr} {zs : List Int} (h : Row w a zs) (hb : Below w.heap.size w w') : Row w' a zs := by
  rcases h with rfl | ⟨b, off, rfl, h⟩
  · exact Or.inl rfl
  · refine Or.inr ⟨b, off, rfl, fun i hi => ?_⟩
    have hc := h i hi
    have : b < w.heap.size := block_lt_of_cell hc
    rw [hb.cell (p := ⟨b, off + i, none⟩) this]
    exact hc

/-- w' is w but for draws -/
def Dr (w w' : World) : Prop := ∃ n, w' = w.drewN n
theorem Dr.refl (w : World) : Dr w w := ⟨0, rfl⟩
theorem Dr.on {w w' : World} (h : Dr w w') (n : Nat) : Dr w (w'.drewN n) := by
  obtain ⟨m, rfl⟩ := h
  exact ⟨m + n, by rw [World.drewN_drewN]⟩
theorem Dr.grown {w w' : World} (h : Dr w w') (row : Option Nat) : w.grownBy w' row := by
  obtain ⟨n, rfl⟩ := h
  induction n with
  | zero => exact ⟨rfl, rfl, rfl, Nat.le_refl _, fun _ _ _ => rfl⟩
  | succ n ih => exact ⟨ih.os, ih.tape, ih.output, ih.size, ih.block⟩

/-! ### a row of ints of the call's own -/
def OwnI (w : World) (lo : Nat) (a : Option Addr) (zs : List Int) : Prop :=
  w.ownsRow lo 3 1 (.slice a zs.length zs.length) zs.length (zs.map (Value.int .i64))

theorem OwnI.look {w : World} {lo : Nat} {a : Option Addr} {zs : List Int} (h : OwnI w lo a zs) : (a = none ∧ zs = []) ∨ ∃ B, a = some ⟨B, 0, none⟩ ∧ lo ≤ B ∧ B < w.heap.size := by
  have hlt := h.lt
  rcases h.2 with ⟨h1, h2⟩ | ⟨g, cap, cur, h1, hb, _⟩
  · have : zs = [] := List.length_eq_zero_iff.1 h2
    subst this
    simp at h1
    exact Or.inl ⟨h1, rfl⟩
  · simp at h1
    obtain ⟨rfl, _⟩ := h1
    exact Or.inr ⟨g, rfl, hb, (hlt g rfl).2⟩
theorem OwnI.at0 {w : World} {lo : Nat} {a : Option Addr} {zs : List Int} (h : OwnI w lo a zs) {k : Nat} (hk : k < zs.length) : ∃ B, a = some ⟨B, 0, none⟩ ∧ lo ≤ B ∧ B < w.heap.size := by
  rcases h.look with ⟨_, rfl⟩ | h
  · simp at hk
  · exact h
theorem OwnI.cell {w : World} {lo B : Nat} {zs : List Int} (h : OwnI w lo (some ⟨B, 0, none⟩) zs) {k : Nat} (hk : k < zs.length) : w.cell? ⟨B, k, none⟩ = some (.int .i64 (zs.getD k 0)) := by
  unfold OwnI at h
  rw [h.cellAt k (by omega)]
  simp [List.getD, hk]
theorem OwnI.frozen {w : World} {lo B : Nat} {zs : List Int} (h : OwnI w lo (some ⟨B, 0, none⟩) zs) (k : Nat) : w.frozen? ⟨B, k, none⟩ = false := h.frozenAt k
theorem OwnI.set {w : World} {lo B : Nat} {zs : List Int} (h : OwnI w lo (some ⟨B, 0, none⟩) zs) (k : Nat) (v : Int) :
    OwnI (w.setCell ⟨B, k, none⟩ (.int .i64 v)) lo (some ⟨B, 0, none⟩) (zs.set k v) ∧ w.grownBy (w.setCell ⟨B, k, none⟩ (.int .i64 v)) (some B) := by
  obtain ⟨h1, h2⟩ := h.stored k (.int .i64 v)
  refine ⟨?_, h2⟩
  unfold OwnI
  rw [List.length_set, List.map_set]
  exact h1
theorem OwnI.row {w : World} {lo : Nat} {a : Option Addr} {zs : List Int} (h : OwnI w lo a zs) : Row w a zs := by
  rcases h.look with ⟨_, rfl⟩ | ⟨B, rfl, _⟩
  · exact Or.inl rfl
  · exact Or.inr ⟨B, 0, rfl, fun i hi => by rw [Nat.zero_add]; exact h.cell hi⟩
theorem OwnI.kept {w w' : World} {lo : Nat} {a : Option Addr} {zs : List Int} {row : Option Nat} (h : OwnI w lo a zs) (hg : w.grownBy w' row) (hne : ∀ B, a = some ⟨B, 0, none⟩ → row ≠ some B) : OwnI w' lo a zs := by
  rcases h.look with ⟨rfl, rfl⟩ | ⟨B, rfl, _⟩
  · exact World.ownsRow_nil _ _ _ _
  · exact World.ownsRow.kept h hg (Or.inr (fun e => hne B rfl e.symm))
theorem OwnI.below {w w' : World} {lo : Nat} {a : Option Addr} {zs : List Int} (h : OwnI w lo a zs) (hb : Below w.heap.size w w') : OwnI w' lo a zs :=
  h.kept (row := none) ⟨hb.os, hb.tape, hb.output, hb.size, fun k hk _ => hb.block k hk⟩ (fun B _ => by simp)
theorem OwnI.dr {w w' : World} {lo : Nat} {a : Option Addr} {zs : List Int} (h : OwnI w lo a zs) (hd : Dr w w') : OwnI w' lo a zs :=
  h.kept (row := none) (hd.grown none) (fun B _ => by simp)

theorem grew (w : World) (o : Obj) : Below w.heap.size w (w.alloc o) := (Below.refl _ _).alloc (Nat.le_refl _) _

theorem take_snoc (zs : List Int) (k : Nat) (h : k < zs.length) : zs.take (k + 1) = zs.take k ++ [zs.getD k 0] := by
  rw [List.take_succ_eq_append_getElem h]; simp [List.getD, h]
theorem getD_mem {zs : List Int} {k : Nat} (h : k < zs.length) : zs.getD k 0 ∈ zs := by
  rw [List.getD, List.getElem?_eq_getElem h]; exact List.getElem_mem h

theorem Try.info3 : (Try.prog.info? 3).map (fun i => (i.zero, i.size, i.bytes)) = some (some (.int .i64 0), 1, 8) := by kernel_rfl

/-! ### cloneInts -/
def filled (zs : List Int) (k : Nat) : List Int := zs.take k ++ List.replicate (zs.length - k) 0
theorem filled_length (zs : List Int) (k : Nat) (h : k ≤ zs.length) : (filled zs k).length = zs.length := by
  simp [filled]; omega
theorem filled_set (zs : List Int) (k : Nat) (z : Int) (h : k < zs.length) (hs : z = zs.getD k 0) : (filled zs k).set k z = filled zs (k + 1) := by
  unfold filled
  rw [take_snoc zs k h, ← hs, List.set_append_right _ _ (by simp; omega)]
  have : k - (zs.take k).length = 0 := by simp; omega
  rw [this, show zs.length - k = (zs.length - (k + 1)) + 1 from by omega, List.replicate_succ]
  simp
theorem filled_all (zs : List Int) : filled zs zs.length = zs := by simp [filled]

set_option maxHeartbeats 400000 in
theorem clone_any (a : Option Addr) (cap : Nat) (zs : List Int) (w : World) (hr : Row w a zs) (hn : a = none → zs = []) (hl : zs.length ≤ 8192) :
    Calls Try.prog 13 #[.slice a zs.length cap] w fun e w' => ∃ a', e = .returned (.slice a' zs.length zs.length) ∧ OwnI w' w.heap.size a' zs ∧ Below w.heap.size w w' := by
  obtain ⟨i0, hi, hz0, hz1, hz2⟩ := info_parts Try.info3
  have heq := fun (a : Option Addr) (n c : Nat) => Lib.run_eql_slice_nil w 22 3 a n c 0 0 Try.underlying22
  cases a with
  | none =>
    have := hn rfl
    subst this
    go_enter Try.func13, Try.ntmps13
    go_wp2
    go_ret
    exact ⟨none, rfl, World.ownsRow_nil _ _ _ _, Below.refl _ _⟩
  | some x =>
    clear hn
    go_enter Try.func13, Try.ntmps13
    go_wp2_with (first | (at_make; refine wpList_make_full _ rfl _ _ 22 rfl w.heap.size 3 i0 (.int .i64 0) 1 Try.underlying22 hi hz0 hz1 .i64 .i64 _ _ zs.length rfl rfl rfl rfl (by rw [hz2]; omega) (by unfold maxLen; omega) (Nat.le_refl _) ?_; intro w1 hown1 hg1) | go_in)
    have hst : OwnI w1 w.heap.size (some ⟨w.heap.size, 0, none⟩) (filled zs 0) := by
      unfold OwnI
      rw [filled_length zs 0 (Nat.zero_le _)]
      rw [Nat.mul_one] at hown1
      have e : (madeCells (Value.int .i64 0).cells zs.length).toList = (filled zs 0).map (Value.int .i64) := (toList_madeCells_one _ _).trans (by simp [filled])
      rw [← e]
      exact hown1
    clear hown1
    go_loopw [4] (fun i wr => ∃ k : Nat, k ≤ zs.length ∧ i = .int .i64 k ∧ OwnI wr w.heap.size (some ⟨w.heap.size, 0, none⟩) (filled zs k) ∧ Below w.heap.size w wr) (fun i _ => zs.length - (intOf i).toNat)
    case atStart => exact ⟨0, Nat.zero_le _, rfl, hst, (Below.refl _ _).grown hg1 (Nat.le_refl _) (fun j hj => by cases hj)⟩
    case round =>
      clear hst
      obtain ⟨k, hk, rfl, hown, hb⟩ := hrel
      by_cases hlt : k < zs.length
      · obtain ⟨bb, off, z, hx, hs, hc⟩ := (hr.below hb).get hlt
        cases hx
        have hst := (hown.set k z).1
        rw [filled_set zs k z hlt hs] at hst
        have Hst := hide hst
        have hf := hown.frozen k
        have hcu := hown.cell (k := k) (by rw [filled_length _ _ hk]; omega)
        generalize (filled zs k).getD k 0 = u at hcu
        clear hst hs hown
        go_wp2
        go_roundw
        case rel => exact ⟨k + 1, by omega, by go_num, Hst.out, hb.setCell (Nat.le_refl _) _⟩
        case measure => simp [intOf]; omega
      · obtain rfl : k = zs.length := by omega
        rw [filled_all] at hown
        go_wp2
        go_ret
        exact ⟨_, rfl, hown, hb⟩
end Go.Proofs.Qxb6600123a
