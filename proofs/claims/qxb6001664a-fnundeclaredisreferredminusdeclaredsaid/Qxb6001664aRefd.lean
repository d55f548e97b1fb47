import Derived.Test.Qxb6001664aPlain
import Derived.Test.Qxb6001664aRefs
import Derived.Maps.AppendAt
namespace Go.Proofs.Qxb6001664a
open Go.RowKit

/-- what an owned row of strings is as a slice -/
theorem own_row {w : World} {base : Nat} {v : Value} {ss : List ByteArray} (h : w.ownsRow base 9 1 v ss.length (ss.map Value.string)) :
    ∃ a cap, v = .slice a ss.length cap ∧ ss.length ≤ cap ∧ Row w a ss ∧ (a = none → ss = []) := by
  rcases h.2 with ⟨rfl, h0⟩ | ⟨g, cap, cur, rfl, hb, hg, hn, hm, hc, ht⟩
  · have : ss = [] := List.length_eq_zero_iff.1 h0
    subst this
    exact ⟨none, 0, rfl, by simp, Or.inl rfl, fun _ => rfl⟩
  · refine ⟨_, cap, rfl, hn, Or.inr ⟨g, 0, rfl, fun i hi => ?_⟩, fun h => by cases h⟩
    rw [Nat.zero_add, h.cellAt i (by omega)]
    simp [List.getD, hi]

theorem grew (w : World) (o : Obj) : Below w.heap.size w (w.alloc o) := (Below.refl _ _).alloc (Nat.le_refl _) _

set_option maxHeartbeats 1000000 in
theorem referred_any (a : Option Addr) (cap : Nat) (ss : List ByteArray) (w : World) (hr : Refs w a ss) (hl : ss.length ≤ 8192) :
    Calls Try.prog 33 #[.slice a ss.length cap] w fun e w' => ∃ v, e = .returned v ∧ w'.ownsRow w.heap.size 9 1 v (ded ss).length ((ded ss).map Value.string) ∧ Below w.heap.size w w' := by
  obtain ⟨i0, hi, hz0, hz1, hz2⟩ := info_parts Try.info9
  go_enter Try.func33, Try.ntmps33
  go_wp2
  go_loopw [3, 8] (fun v i wr => ∃ (k : Nat), k ≤ ss.length ∧ i = .int .i64 k ∧ wr.ownsRow w.heap.size 9 1 v (ded (ss.take k)).length ((ded (ss.take k)).map Value.string) ∧ Below w.heap.size w wr) (fun _ i _ => ss.length - (intOf i).toNat)
  case atStart => exact ⟨0, Nat.zero_le _, rfl, World.ownsRow_nil _ _ _ _, Below.refl _ _⟩
  case round =>
    obtain ⟨k, hk, rfl, hown, hb⟩ := hrel
    by_cases hlt : k < ss.length
    · obtain ⟨b1, off1, s, p, rfl, hs, hc1, hc2⟩ := (hr.below hb).get hlt
      obtain ⟨a2, cap2, rfl, hcap, hrow, hnil⟩ := own_row hown
      have hdl := ded_len_take ss k
      have Hd : Hid (ded (ss.take (k + 1)) = addS (ded (ss.take k)) s) := by rw [take_snoc ss k hlt, ← hs]; exact ded_snoc _ _
      clear hs hnil
      generalize ded (ss.take k) = G at *
      have hW : ∃ W, W = wr.alloc (.cells #[.string s, .string p] 56) := ⟨_, rfl⟩
      obtain ⟨W, hW⟩ := hW
      have hownW : W.ownsRow w.heap.size 9 1 (.slice a2 G.length cap2) G.length (G.map Value.string) := by rw [hW]; exact hown.alloc _
      have hbW : Below w.heap.size w W := by rw [hW]; exact hb.alloc hb.size _
      have hrowW : Row W a2 G := by rw [hW]; exact hrow.below (grew _ _)
      have hcW : W.cell? ⟨wr.heap.size, 0, none⟩ = some (.string s) := by rw [hW]; go_cell
      have HW := hide hW
      clear hW hown hrow hcap
      go_wp2_with fail
      rw [← HW.out]
      clear HW hb hc1 hc2
      generalize wr.heap.size = R at *
      cases hin : inB G s
      · refine (contains_any a2 cap2 G s W hrowW (by omega)).mono ?_
        rintro e w2 ⟨rfl, hw⟩
        subst w2
        go_wp2_with (first
          | (at_builtin; refine wpList_append_own _ rfl _ _ 22 rfl w.heap.size 9 i0 (.string ByteArray.empty) 1 16 Try.underlying22 hi hz0 hz1 hz2 rfl (by decide) _ _ _ rfl (hownW.alloc _) ⟨W.heap.size, 0, none⟩ 1 1 [.string s] rfl rfl (cell_one_new _ _ _) (fun x hx => by simp at hx; subst hx; rfl) (by unfold maxLen; omega) (by omega) (by have := hbW.size; simp; omega) ?_; intro v' w3 hown' hgrow3 hnil3)
          | go_in)
        go_roundw
        case rel =>
          refine ⟨k + 1, by omega, by go_num, ?_, ?_⟩
          · rw [Hd.out, addS_miss hin]
            simpa using hown'
          · exact (hbW.alloc hbW.size _).grown hgrow3 (by have := hbW.size; simp; omega) (fun j hj => (hownW.lt j hj).1)
        case measure => simp [intOf]; omega
      · refine (contains_any a2 cap2 G s W hrowW (by omega)).mono ?_
        rintro e w2 ⟨rfl, hw⟩
        subst w2
        go_wp2
        go_roundw
        case rel => exact ⟨k + 1, by omega, by go_num, by rw [Hd.out, addS_hit hin]; exact hownW, hbW⟩
        case measure => simp [intOf]; omega
    · obtain rfl : k = ss.length := by omega
      rw [List.take_length] at hown
      go_wp2
      go_ret
      exact ⟨_, rfl, hown, hb⟩

/-- ZZReferredLabels -/
theorem zzReferred_any (a : Option Addr) (cap : Nat) (ss : List ByteArray) (w : World) (hr : Refs w a ss) (hl : ss.length ≤ 8192) :
    Calls Try.prog 14 #[.slice a ss.length cap] w fun e w' => ∃ v, e = .returned v ∧ w'.ownsRow w.heap.size 9 1 v (ded ss).length ((ded ss).map Value.string) ∧ Below w.heap.size w w' := by
  go_enter Try.func14, Try.ntmps14
  go_wp2_with fail
  refine (referred_any a cap ss w hr hl).mono ?_
  rintro e w1 ⟨v, rfl, h1, h2⟩
  go_wp2
  go_ret
  exact ⟨v, rfl, h1, h2⟩
end Go.Proofs.Qxb6001664a
