import Derived.Test.Qxb6001664aClone
namespace Go.Proofs.Qxb6001664a
open Go.RowKit

abbrev emp : Value := .string ByteArray.empty
theorem Try.info56 : (Try.prog.info? 56).map (fun i => (i.zero, i.size, i.bytes)) = some (some (.agg #[emp, emp]), 2, 32) := by kernel_rfl

/-- the first k pairs of cells: a label and some property -/
def Paired (xs : List Value) (ss : List ByteArray) (k : Nat) : Prop :=
  ∀ i, i < k → xs[i * 2]? = some (.string (ss.getD i ByteArray.empty)) ∧ ∃ p, xs[i * 2 + 1]? = some (.string p)

theorem paired_step {xs : List Value} {ss : List ByteArray} {k : Nat} {s p : ByteArray} (h : Paired xs ss k) (hl : k * 2 + 1 < xs.length) (hs : s = ss.getD k ByteArray.empty) :
    Paired ((xs.set (k * 2) (.string s)).set (k * 2 + 1) (.string p)) ss (k + 1) := by
  intro i hi
  by_cases e : i = k
  · subst e
    refine ⟨?_, p, ?_⟩
    · rw [List.getElem?_set_ne (by omega), List.getElem?_set_self (by omega), hs]
    · rw [List.getElem?_set_self (by simp; omega)]
  · obtain ⟨h1, q, h2⟩ := h i (by omega)
    refine ⟨?_, q, ?_⟩
    · rw [List.getElem?_set_ne (by omega), List.getElem?_set_ne (by omega), h1]
    · rw [List.getElem?_set_ne (by omega), List.getElem?_set_ne (by omega), h2]

/-- a slice of references: its labels are ss -/
def Refs (w : World) (a : Option Addr) (ss : List ByteArray) : Prop :=
  ss = [] ∨ ∃ b off, a = some ⟨b, off, none⟩ ∧ ∀ i, i < ss.length → w.cell? ⟨b, off + i * 2, none⟩ = some (.string (ss.getD i ByteArray.empty)) ∧ ∃ p, w.cell? ⟨b, off + i * 2 + 1, none⟩ = some (.string p)

theorem Refs.below {w w' : World} {a : Option Addr} {ss : List ByteArray} (h : Refs w a ss) (hb : Below w.heap.size w w') : Refs w' a ss := by
  rcases h with rfl | ⟨b, off, rfl, h⟩
  · exact Or.inl rfl
  · refine Or.inr ⟨b, off, rfl, fun i hi => ?_⟩
    obtain ⟨hc, p, hp⟩ := h i hi
    have : b < w.heap.size := block_lt_of_cell hc
    rw [hb.cell (p := ⟨b, off + i * 2, none⟩) this, hb.cell (p := ⟨b, off + i * 2 + 1, none⟩) this]
    exact ⟨hc, p, hp⟩

theorem Refs.get {w : World} {a : Option Addr} {ss : List ByteArray} (h : Refs w a ss) {k : Nat} (hk : k < ss.length) :
    ∃ b off s p, a = some ⟨b, off, none⟩ ∧ s = ss.getD k ByteArray.empty ∧ w.cell? ⟨b, off + k * 2, none⟩ = some (.string s) ∧ w.cell? ⟨b, off + k * 2 + 1, none⟩ = some (.string p) := by
  rcases h with rfl | ⟨b, off, rfl, h⟩
  · simp at hk
  · obtain ⟨h1, p, h2⟩ := h k hk
    exact ⟨b, off, _, p, rfl, rfl, h1, h2⟩

set_option maxHeartbeats 400000 in
theorem makeRefs_any (a b : Option Addr) (cap capb : Nat) (ss tt : List ByteArray) (w : World) (hr : Row w a ss) (hr2 : Row w b tt) (hl : ss.length ≤ 8192) (_hl2 : tt.length ≤ 8192) :
    Calls Try.prog 15 #[.slice a ss.length cap, .slice b tt.length capb] w fun e w' => ∃ a', e = .returned (.slice a' ss.length ss.length) ∧ Refs w' a' ss ∧ Below w.heap.size w w' := by
  obtain ⟨i0, hi, hz0, hz1, hz2⟩ := info_parts Try.info56
  go_enter Try.func15, Try.ntmps15
  go_wp2_with (first | (at_make; refine wpList_make_full _ rfl _ _ 27 rfl w.heap.size 56 i0 (.agg #[emp, emp]) 2 Try.underlying27 hi hz0 hz1 .i64 .i64 _ _ ss.length rfl rfl rfl rfl (by rw [hz2]; omega) (by unfold maxLen; omega) (Nat.le_refl _) ?_; intro w1 hown1 hg1) | go_in)
  go_loopw [6] (fun i wr => ∃ (k : Nat) (xs : List Value), k ≤ ss.length ∧ i = .int .i64 k ∧ wr.ownsRow w.heap.size 56 2 (.slice (some ⟨w.heap.size, 0, none⟩) ss.length ss.length) ss.length xs ∧ Paired xs ss k ∧ Below w.heap.size w wr) (fun i _ => ss.length - (intOf i).toNat)
  case atStart => exact ⟨0, _, Nat.zero_le _, rfl, hown1, fun i hi => by omega, (Below.refl _ _).grown hg1 (Nat.le_refl _) (fun j hj => by cases hj)⟩
  case round =>
    obtain ⟨k, xs, hk, rfl, hown, hp, hb⟩ := hrel
    by_cases hlt : k < ss.length
    · obtain ⟨b1, off1, s, rfl, hs, hc⟩ := (hr.below hb).get hlt
      have hxl := hown.1
      have hst := fun p => (hown.stored (k * 2) (.string s)).1.stored (k * 2 + 1) (.string p)
      have hpp := fun p => paired_step (p := p) hp (by omega) hs
      have Hst := hide hst
      have Hpp := hide hpp
      have hf1 := hown.frozenAt (k * 2)
      have hf2 := hown.frozenAt (k * 2 + 1)
      obtain ⟨u1, hu1⟩ : ∃ u, wr.cell? ⟨w.heap.size, k * 2, none⟩ = some u := ⟨_, (hown.cellAt (k * 2) (by omega)).trans (List.getElem?_eq_getElem (by omega))⟩
      obtain ⟨u2, hu2⟩ : ∃ u, wr.cell? ⟨w.heap.size, k * 2 + 1, none⟩ = some u := ⟨_, (hown.cellAt (k * 2 + 1) (by omega)).trans (List.getElem?_eq_getElem (by omega))⟩
      clear hs hst hpp hp hown hxl
      by_cases hlt2 : k < tt.length
      · obtain ⟨b2, off2, s', rfl, hs', hc'⟩ := (hr2.below hb).get hlt2
        clear hs'
        go_wp2
        go_roundw
        case rel => exact ⟨k + 1, _, by omega, by go_num, (Hst.out _).1, Hpp.out _, (hb.setCell (Nat.le_refl _) _).setCell (Nat.le_refl _) _⟩
        case measure => simp [intOf]; omega
      · go_wp2
        go_roundw
        case rel => exact ⟨k + 1, _, by omega, by go_num, (Hst.out _).1, Hpp.out _, (hb.setCell (Nat.le_refl _) _).setCell (Nat.le_refl _) _⟩
        case measure => simp [intOf]; omega
    · obtain rfl : k = ss.length := by omega
      go_wp2
      go_ret
      refine ⟨_, rfl, Or.inr ⟨_, _, rfl, fun i hi => ?_⟩, hb⟩
      obtain ⟨h1, p, h2⟩ := hp i hi
      rw [Nat.zero_add, hown.cellAt (i * 2) (by omega), hown.cellAt (i * 2 + 1) (by omega)]
      exact ⟨h1, p, h2⟩
end Go.Proofs.Qxb6001664a
