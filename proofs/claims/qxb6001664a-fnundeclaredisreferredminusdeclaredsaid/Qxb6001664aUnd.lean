import Derived.Test.Qxb6001664aDecl
namespace Go.Proofs.Qxb6001664a
open Go.RowKit Go.Maps

theorem own_mono {w : World} {b b' : Nat} {v : Value} {n : Nat} {xs : List Value} (h : w.ownsRow b' 9 1 v n xs) (hb : b ≤ b') : w.ownsRow b 9 1 v n xs := by
  obtain ⟨h1, h2⟩ := h
  refine ⟨h1, ?_⟩
  rcases h2 with h2 | ⟨g', cap', cur, hv, hg, r⟩
  · exact Or.inl h2
  · exact Or.inr ⟨g', cap', cur, hv, Nat.le_trans hb hg, r⟩

set_option maxHeartbeats 1000000 in
theorem undeclared_any (a : Option Addr) (cap : Nat) (m : Option Nat) (ss ds : List ByteArray) (w : World) (hr : Refs w a ss) (hm : Decl w m ds) (hl : ss.length ≤ 8192) (hsz : ∀ s ∈ ss, s.size ≤ maxLen) :
    Calls Try.prog 34 #[.slice a ss.length cap, .map m] w fun e w' => ∃ v, e = .returned v ∧ w'.ownsRow w.heap.size 9 1 v (filt ds (ded ss)).length ((filt ds (ded ss)).map Value.string) ∧ Below w.heap.size w w' := by
  obtain ⟨i0, hi, hz0, hz1, hz2⟩ := info_parts Try.info9
  have hGl := ded_len ss
  have hmem : ∀ s ∈ ded ss, s.size ≤ maxLen := fun s hs => hsz s ((mem_ded ss s).1 hs)
  obtain ⟨G, hG⟩ : ∃ G, ded ss = G := ⟨_, rfl⟩
  rw [hG] at hGl hmem
  rw [hG]
  have HG := hide hG
  clear hG
  go_enter Try.func34, Try.ntmps34
  go_wp2_with fail
  refine (referred_any a cap ss w hr hl).mono ?_
  rintro e w1 ⟨v, rfl, hown, hb1⟩
  rw [HG.out] at hown
  obtain ⟨g, gcap, rfl, hgc, hrg, hgn⟩ := own_row hown
  replace hm := hm.below hb1
  clear hr hown hgn hgc hsz
  go_wp2_with fail
  go_loopw [5, 13] (fun v i wr => ∃ (k : Nat), k ≤ G.length ∧ i = .int .i64 k ∧ wr.ownsRow w1.heap.size 9 1 v (filt ds (G.take k)).length ((filt ds (G.take k)).map Value.string) ∧ Below w1.heap.size w1 wr) (fun _ i _ => G.length - (intOf i).toNat)
  case atStart => exact ⟨0, Nat.zero_le _, rfl, World.ownsRow_nil _ _ _ _, Below.refl _ _⟩
  case round =>
    obtain ⟨k, hk, rfl, hown, hb⟩ := hrel
    by_cases hlt : k < G.length
    · obtain ⟨b1, off1, s, rfl, hs, hc1⟩ := (hrg.below hb).get hlt
      obtain ⟨c, hlook⟩ := (hm.below hb).look s (hmem s (hs ▸ getD_mem hlt))
      have hdl := filt_len ds (G.take k)
      have hdl2 : (G.take k).length ≤ k := List.length_take_le _ _
      have Hd : Hid (filt ds (G.take (k + 1)) = if inB ds s then filt ds (G.take k) else filt ds (G.take k) ++ [s]) := by rw [take_snoc G k hlt, ← hs]; exact filt_snoc _ _ _
      clear hs hmem
      generalize filt ds (G.take k) = F at *
      cases hin : inB ds s
      · rw [hin] at hlook
        go_wp2_with (first
          | (at_builtin; refine wpList_append_own _ rfl _ _ 22 rfl w1.heap.size 9 i0 (.string ByteArray.empty) 1 16 Try.underlying22 hi hz0 hz1 hz2 rfl (by decide) _ _ _ rfl (hown.alloc _) ⟨wr.heap.size, 0, none⟩ 1 1 [.string s] rfl rfl (cell_one_new _ _ _) (fun x hx => by simp at hx; subst hx; rfl) (by unfold maxLen; omega) (by omega) (by have := hb.size; simp; omega) ?_; intro v' w3 hown' hgrow3 hnil3)
          | go_in)
        go_roundw
        case rel =>
          refine ⟨k + 1, by omega, by go_num, ?_, ?_⟩
          · rw [Hd.out, hin]
            simpa using hown'
          · exact (hb.alloc hb.size _).grown hgrow3 (by have := hb.size; simp; omega) (fun j hj => (hown.lt j hj).1)
        case measure => simp [intOf]; omega
      · rw [hin] at hlook
        go_wp2
        go_roundw
        case rel => exact ⟨k + 1, by omega, by go_num, by rw [Hd.out, hin]; exact hown, hb⟩
        case measure => simp [intOf]; omega
    · obtain rfl : k = G.length := by omega
      rw [List.take_length] at hown
      go_wp2
      go_ret
      exact ⟨_, rfl, own_mono hown hb1.size, hb1.trans (hb.mono hb1.size)⟩

/-- ZZUndeclared -/
theorem zzUndeclared_any (a : Option Addr) (cap : Nat) (m : Option Nat) (ss ds : List ByteArray) (w : World) (hr : Refs w a ss) (hm : Decl w m ds) (hl : ss.length ≤ 8192) (hsz : ∀ s ∈ ss, s.size ≤ maxLen) :
    Calls Try.prog 19 #[.slice a ss.length cap, .map m] w fun e w' => ∃ v, e = .returned v ∧ w'.ownsRow w.heap.size 9 1 v (filt ds (ded ss)).length ((filt ds (ded ss)).map Value.string) ∧ Below w.heap.size w w' := by
  go_enter Try.func19, Try.ntmps19
  go_wp2_with fail
  refine (undeclared_any a cap m ss ds w hr hm hl hsz).mono ?_
  rintro e w1 ⟨v, rfl, h1, h2⟩
  go_wp2
  go_ret
  exact ⟨v, rfl, h1, h2⟩
end Go.Proofs.Qxb6001664a
