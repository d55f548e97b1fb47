import Derived.Test.Qxb6600341aRows
import Derived.WalkKit
import Derived.Handy
import Derived.Deep.QuietTactic
import Derived.BigQuiet
import Derived.Deep.RegionWith
import Derived.Lib.SliceRun
import Derived.Sort.LotA
import Derived.Sort.LotC
namespace Go.Proofs.Qxb6600341a
open Go.RowKit
open Go.Sort (swp ltInt PermIn SortedIn)

theorem hide {p : Prop} (h : p) : Hid p := h
theorem val_int {k : IntKind} {a b : Int} (h : a = b) : Value.int k a = .int k b := by rw [h]
theorem ret_bool {a b : Bool} (h : a = b) : Ending.returned (.bool a) = .returned (.bool b) := by rw [h]
theorem grown_refl (w : World) (row : Option Nat) : w.grownBy w row := ⟨rfl, rfl, rfl, Nat.le_refl _, fun _ _ _ => rfl⟩
theorem grown_trans {a b c : World} {row : Option Nat} (h : a.grownBy b row) (k : b.grownBy c row) : a.grownBy c row :=
  ⟨k.os.trans h.os, k.tape.trans h.tape, k.output.trans h.output, Nat.le_trans h.size k.size, fun i hi hne => (k.block i (Nat.lt_of_lt_of_le hi h.size) hne).trans (h.block i hi hne)⟩

/-- w' is w but for draws -/
def Dr (w w' : World) : Prop := ∃ n, w' = w.drewN n
theorem Dr.refl (w : World) : Dr w w := ⟨0, rfl⟩
theorem Dr.on {w w' : World} (h : Dr w w') (n : Nat) : Dr w (w'.drewN n) := by
  obtain ⟨m, rfl⟩ := h
  exact ⟨m + n, by rw [World.drewN_drewN]⟩
theorem Dr.grown {w w' : World} (h : Dr w w') (row : Option Nat) : w.grownBy w' row := by
  obtain ⟨n, rfl⟩ := h
  induction n with
  | zero => exact grown_refl _ _
  | succ n ih => exact ⟨ih.os, ih.tape, ih.output, ih.size, ih.block⟩

/-! ### a row of uint64s of the call's own -/
def OwnA (w : World) (lo B : Nat) (d : Array Int) : Prop :=
  w.ownsRow lo 66 1 (.slice (some ⟨B, 0, none⟩) d.size d.size) d.size (d.toList.map (Value.int .u64))
theorem OwnA.cell {w : World} {lo B : Nat} {d : Array Int} (h : OwnA w lo B d) {k : Nat} (hk : k < d.size) : w.cell? ⟨B, k, none⟩ = some (.int .u64 d[k]!) := by
  unfold OwnA at h
  rw [h.cellAt k (by omega)]
  simp [hk]
theorem OwnA.frozen {w : World} {lo B : Nat} {d : Array Int} (h : OwnA w lo B d) (k : Nat) : w.frozen? ⟨B, k, none⟩ = false := h.frozenAt k
theorem OwnA.lt {w : World} {lo B : Nat} {d : Array Int} (h : OwnA w lo B d) : lo ≤ B ∧ B < w.heap.size := World.ownsRow.lt h B rfl
theorem OwnA.set {w : World} {lo B : Nat} {d : Array Int} (h : OwnA w lo B d) (k : Nat) (v : Int) :
    OwnA (w.setCell ⟨B, k, none⟩ (.int .u64 v)) lo B (d.setIfInBounds k v) ∧ w.grownBy (w.setCell ⟨B, k, none⟩ (.int .u64 v)) (some B) := by
  obtain ⟨h1, h2⟩ := h.stored k (.int .u64 v)
  refine ⟨?_, h2⟩
  unfold OwnA
  rw [Array.size_setIfInBounds, Array.toList_setIfInBounds, List.map_set]
  exact h1
theorem OwnA.kept {w w' : World} {lo B : Nat} {d : Array Int} {row : Option Nat} (h : OwnA w lo B d) (hg : w.grownBy w' row) (hne : row ≠ some B) : OwnA w' lo B d :=
  World.ownsRow.kept h hg (Or.inr (fun e => hne e.symm))
theorem OwnA.dr {w w' : World} {lo B : Nat} {d : Array Int} (h : OwnA w lo B d) (hd : Dr w w') : OwnA w' lo B d := h.kept (hd.grown none) (by simp)
theorem OwnA.alloc {w : World} {lo B : Nat} {d : Array Int} (h : OwnA w lo B d) (o : Obj) : OwnA (w.alloc o) lo B d := h.kept (World.grownBy_alloc w o none) (by simp)

/-- W is a world of the sort's: the row holds d, and nothing else has turned since w -/
def SW (w : World) (lo B : Nat) (d : Array Int) (W : World) : Prop := OwnA W lo B d ∧ w.grownBy W (some B)
theorem SW.refl {w : World} {lo B : Nat} {d : Array Int} (h : OwnA w lo B d) : SW w lo B d w := ⟨h, grown_refl _ _⟩
theorem SW.dr {w W W' : World} {lo B : Nat} {d : Array Int} (h : SW w lo B d W) (hd : Dr W W') : SW w lo B d W' := ⟨h.1.dr hd, grown_trans h.2 (hd.grown _)⟩
theorem SW.drewN {w W : World} {lo B : Nat} {d : Array Int} (h : SW w lo B d W) (n : Nat) : SW w lo B d (W.drewN n) := h.dr ⟨n, rfl⟩
theorem SW.on {w W W' : World} {lo B : Nat} {d d' : Array Int} (h : SW w lo B d W) (k : SW W lo B d' W') : SW w lo B d' W' := ⟨k.1, grown_trans h.2 k.2⟩
theorem SW.alloc {w W : World} {lo B : Nat} {d : Array Int} (h : SW w lo B d W) (o : Obj) : SW w lo B d (W.alloc o) := ⟨h.1.alloc o, grown_trans h.2 (World.grownBy_alloc W o _)⟩
theorem SW.swap {w W : World} {lo B : Nat} {d : Array Int} (h : SW w lo B d W) (i j : Nat) :
    SW w lo B (swp d i j) ((W.setCell ⟨B, i, none⟩ (.int .u64 d[j]!)).setCell ⟨B, j, none⟩ (.int .u64 d[i]!)) := by
  obtain ⟨h1, h2⟩ := h.1.set i d[j]!
  obtain ⟨h3, h4⟩ := h1.set j d[i]!
  exact ⟨h3, grown_trans h.2 (grown_trans h2 h4)⟩
theorem SW.drew {w W : World} {lo B : Nat} {d : Array Int} (h : SW w lo B d W) : SW w lo B d W.drew := h.dr ⟨1, rfl⟩

/-! ### cmp.Less -/
set_option maxHeartbeats 400000 in
theorem isNaN_any (x : Int) (w : World) : Calls Try.prog 51 #[.int .u64 x] w fun e w' => e = .returned (.bool false) ∧ w' = w := by
  go_enter Try.func51, Try.ntmps51
  go_wp2
  go_ret
  exact ⟨ret_bool (by simp), rfl⟩
set_option maxHeartbeats 400000 in
theorem less_any (x y : Int) (w : World) : Calls Try.prog 41 #[.int .u64 x, .int .u64 y] w fun e w' => e = .returned (.bool (ltInt x y)) ∧ w' = w := by
  go_enter Try.func41, Try.ntmps41
  go_wp2_with (go_at_call 51; refine (isNaN_any _ _).mono ?_; rintro e w' ⟨rfl, rfl⟩)
  go_ret
  exact ⟨ret_bool (by simp [ltInt]), rfl⟩
theorem less_r (x y : Int) (r : Bool) (w : World) (h : ltInt x y = r) : Calls Try.prog 41 #[.int .u64 x, .int .u64 y] w fun e w' => e = .returned (.bool r) ∧ w' = w := by
  subst h; exact less_any x y w
end Go.Proofs.Qxb6600341a
