import Derived.Test.Qxb6001664aUnd
import Derived.Test.Qxb6001664aZzB
import Derived.Test.Qxb6001664aLawA
namespace Go.Proofs.Qxb6001664a
open Go.RowKit Go.Maps
open Go.WideMaps (keyOf_string_mk string_of_keyOf)

/-! ### the last loop: the one list without x, step by step -/
def drop1 (x : ByteArray) (l : List ByteArray) : List ByteArray := l.filter fun s => !inB [x] s
theorem inB_one (x s : ByteArray) : inB [x] s = (s.toList == x.toList) := by
  rw [ByteArray.toList_eq, ByteArray.toList_eq, Bool.eq_iff_iff]
  simp only [inB, List.any_cons, List.any_nil, Bool.or_false, beq_iff_eq]
  exact ⟨fun h => h.symm, fun h => h.symm⟩
theorem drop1_snoc (x : ByteArray) (l : List ByteArray) (s : ByteArray) : drop1 x (l ++ [s]) = if (s.toList == x.toList) then drop1 x l else drop1 x l ++ [s] := by
  unfold drop1
  rw [List.filter_append]
  cases h : (s.toList == x.toList) <;> simp [List.filter, inB_one, h]
theorem drop1_split (x : ByteArray) (l : List ByteArray) (k : Nat) : drop1 x l = drop1 x (l.take k) ++ drop1 x (l.drop k) := by
  unfold drop1
  rw [← List.filter_append, List.take_append_drop]
/-- the next one that stays is the next one of the shorter list -/
theorem drop1_next {x : ByteArray} {l : List ByteArray} {k : Nat} {s : ByteArray} (hk : k < l.length) (hs : s = l.getD k ByteArray.empty) (hx : (s.toList == x.toList) = false) :
    (drop1 x (l.take k)).length < (drop1 x l).length ∧ (drop1 x l).getD (drop1 x (l.take k)).length ByteArray.empty = s := by
  have e : drop1 x l = drop1 x (l.take k) ++ (s :: drop1 x (l.drop (k + 1))) := by
    rw [drop1_split x l (k + 1), take_snoc l k hk, ← hs, drop1_snoc, hx]
    simp
  rw [e]
  refine ⟨by simp, ?_⟩
  rw [List.getD, List.getElem?_append_right (by omega)]
  simp

/-- a store into a map leaves every row of cells as it was -/
theorem map_cell {w w' : World} {B n : Nat} {D : DataW Unit} (hown : w.ownsMap Try.prog 9 (plainElem Try.prog 3) B n D) (hg : w.grownBy w' (some B)) {a : Addr} {v : Value} (hc : w.cell? a = some v) : w'.cell? a = some v := by
  have hne : a.block ≠ B := by
    intro e
    obtain ⟨es, clock, hb, _⟩ := hown
    rw [← e] at hb
    simp [World.cell?, hb] at hc
  rw [World.cell?_of_block (hg.block a.block (block_lt_of_cell hc) (fun e => hne (Option.some.inj e)))]
  exact hc
theorem Row.map {w w' : World} {B n : Nat} {D : DataW Unit} {a : Option Addr} {ss : List ByteArray} (h : Row w a ss) (hown : w.ownsMap Try.prog 9 (plainElem Try.prog 3) B n D) (hg : w.grownBy w' (some B)) : Row w' a ss := by
  rcases h with rfl | ⟨b, off, rfl, h⟩
  · exact Or.inl rfl
  · exact Or.inr ⟨b, off, rfl, fun i hi => map_cell hown hg (h i hi)⟩
theorem Refs.map {w w' : World} {B n : Nat} {D : DataW Unit} {a : Option Addr} {ss : List ByteArray} (h : Refs w a ss) (hown : w.ownsMap Try.prog 9 (plainElem Try.prog 3) B n D) (hg : w.grownBy w' (some B)) : Refs w' a ss := by
  rcases h with rfl | ⟨b, off, rfl, h⟩
  · exact Or.inl rfl
  · exact Or.inr ⟨b, off, rfl, fun i hi => ⟨map_cell hown hg (h i hi).1, let ⟨p, hp⟩ := (h i hi).2; ⟨p, map_cell hown hg hp⟩⟩⟩

set_option maxRecDepth 100000 in
set_option maxHeartbeats 4000000 in
theorem lawB_any (a0 b0 c0 : Option Addr) (cap0 capb capc : Nat) (ss tt ds : List ByteArray) (x : ByteArray) (w : World) (hr : Row w a0 ss) (hr2 : Row w b0 tt) (hr3 : Row w c0 ds) (hn : a0 = none → ss = []) (hn2 : b0 = none → tt = []) (hn3 : c0 = none → ds = [])
    (hl : ss.length ≤ maxLen) (hl2 : tt.length ≤ maxLen) (hl3 : ds.length ≤ maxLen) (hs : ∀ s ∈ ss, s.size ≤ maxLen) (hd : ∀ s ∈ ds, s.size ≤ maxLen) (hx : x.size ≤ maxLen) :
    Calls Try.prog 4 #[.slice a0 ss.length cap0, .slice b0 tt.length capb, .slice c0 ds.length capc, .string x] w fun e w' => e = .returned (.bool true) ∧ Below w.heap.size w w' := by
  have hl' : ss.length ≤ 9223372036854775807 := by unfold maxLen at hl; exact hl
  have hl2' : tt.length ≤ 9223372036854775807 := by unfold maxLen at hl2; exact hl2
  have hl3' : ds.length ≤ 9223372036854775807 := by unfold maxLen at hl3; exact hl3
  have hx' : x.size ≤ 9223372036854775807 := by unfold maxLen at hx; exact hx
  have hmm := run_makeMap_hint
  go_enter Try.func4, Try.ntmps4
  go_wp2_with fail
  refine (zzBytesB_any a0 b0 c0 cap0 capb capc ss tt ds x _ hr hr2 hr3 hl hl2 hl3).mono ?_
  rintro e w1 ⟨⟨r, rfl⟩, hw⟩
  subst w1
  cases r
  · go_wp2
    go_ret
    exact ⟨rfl, Below.refl _ _⟩
  rcases Nat.lt_or_ge 4096 ss.length with h1 | h1
  · go_wp2
    go_ret
    exact ⟨rfl, Below.refl _ _⟩
  rcases Nat.lt_or_ge 4096 tt.length with h2 | h2
  · go_wp2
    go_ret
    exact ⟨rfl, Below.refl _ _⟩
  rcases Nat.lt_or_ge 4096 ds.length with h3 | h3
  · go_wp2
    go_ret
    exact ⟨rfl, Below.refl _ _⟩
  rcases Nat.lt_or_ge 1048576 x.size with h4 | h4
  · go_wp2
    go_ret
    exact ⟨rfl, Below.refl _ _⟩
  go_wp2_with fail
  refine (bytesOf_any a0 cap0 ss _ hr (by omega)).mono ?_
  rintro e w1 ⟨⟨n1, rfl⟩, hw⟩
  subst w1
  go_wp2_with fail
  refine (bytesOf_any b0 capb tt _ hr2 (by omega)).mono ?_
  rintro e w1 ⟨⟨n2, rfl⟩, hw⟩
  subst w1
  go_wp2_with fail
  refine (bytesOf_any c0 capc ds _ hr3 (by omega)).mono ?_
  rintro e w1 ⟨⟨n3, rfl⟩, hw⟩
  subst w1
  go_wp2_with fail
  · go_ret
    exact ⟨rfl, Below.refl _ _⟩
  refine (clone_any a0 cap0 ss _ hr hn (by omega)).mono ?_
  rintro e w1 ⟨a1, rfl, hra, hb1, hna⟩
  go_wp2_with fail
  refine (clone_any b0 capb tt _ (hr2.below hb1) hn2 (by omega)).mono ?_
  rintro e w2 ⟨b1, rfl, hrb, hb2, hnb⟩
  replace hra := hra.below hb2
  replace hb2 : Below w.heap.size w w2 := hb1.trans (hb2.mono hb1.size)
  clear hb1
  go_wp2_with fail
  refine (clone_any c0 capc ds _ (hr3.below hb2) hn3 (by omega)).mono ?_
  rintro e w3 ⟨c1, rfl, hrc, hb3, hnc⟩
  replace hra := hra.below hb3
  replace hrb := hrb.below hb3
  replace hb3 : Below w.heap.size w w3 := hb2.trans (hb3.mono hb2.size)
  clear hna hnb hnc hr hr2 hr3 hn hn2 hn3 hb2
  go_wp2_with fail
  refine (makeRefs_any a1 b1 _ _ ss tt _ hra hrb (by omega) (by omega)).mono ?_
  rintro e w4 ⟨a2, rfl, hrf, hb4⟩
  replace hra := hra.below hb4
  replace hrc := hrc.below hb4
  replace hb4 : Below w.heap.size w w4 := hb3.trans (hb4.mono hb3.size)
  clear hb3 hrb
  go_wp2_with fail
  have hB : w4.heap.size < (w4.alloc (.map #[] 0)).heap.size := by simp
  go_loopw [11] (fun i wr => ∃ k : Nat, k ≤ ds.length ∧ i = .int .i64 k ∧ Has wr w4.heap.size k (ds.take k) ∧ Below w4.heap.size w4 wr) (fun i _ => ds.length - (intOf i).toNat)
  case atStart =>
    exact ⟨0, Nat.zero_le _, rfl, ⟨_, World.ownsMap_made (H := Unit) w4 Try.prog 9 (plainElem Try.prog 3), fun x => by simp [inB, Maps.has]⟩, grew _ _⟩
  case round =>
    clear hB
    obtain ⟨k, hk, rfl, hhas, hb5⟩ := hrel
    by_cases hlt : k < ds.length
    · obtain ⟨bb, off, s, rfl, hs1, hc⟩ := (hrc.below hb5).get hlt
      obtain ⟨D, hown, hhD⟩ := hhas
      have hkey := keyOf_string_mk Try.underlying9 (hd s (hs1 ▸ getD_mem hlt))
      have hp := has_put hown.isMap hhD s (.lit (.int .i64 k))
      rw [hs1, ← take_snoc ds k hlt, ← hs1] at hp
      have Hp := hide hp
      clear hp hhD hs1
      go_wp2_with (first | (at_mapUpdate; refine wpList_mapUpdate_own _ rfl _ _ _ 31 rfl 9 3 law Try.underlying31 _ w4.heap.size k _ rfl hown (by unfold maxLen; omega) _ _ _ rfl rfl hkey _ [] (plainElem_int Try.underlying3 (WalkArith.wf_i64 (by omega))) ?_; intro w6 hown6 hg6) | go_in)
      go_roundw
      case rel => exact ⟨k + 1, by omega, by go_num, ⟨_, hown6, Hp.out⟩, hb5.grown hg6 hb5.size (fun j hj => by cases hj; exact Nat.le_refl _)⟩
      case measure => simp [intOf]; omega
    · obtain rfl : k = ds.length := by omega
      rw [List.take_length] at hhas
      replace hra := hra.below hb5
      replace hrc := hrc.below hb5
      replace hrf := hrf.below hb5
      replace hb5 : Below w.heap.size w wr := hb4.trans (hb5.mono hb4.size)
      have hBge : w.heap.size ≤ w4.heap.size := hb4.size
      clear hb4
      generalize w4.heap.size = B at *
      go_wp2_with fail
      refine (zzUndeclared_any a2 _ (some B) ss ds _ hrf (Or.inr ⟨B, _, rfl, hhas⟩) (by omega) hs).mono ?_
      rintro e w6 ⟨v, rfl, hown, hb6⟩
      replace hra := hra.below hb6
      replace hrc := hrc.below hb6
      replace hrf := hrf.below hb6
      replace hhas := hhas.below hb6
      replace hb6 : Below w.heap.size w w6 := hb5.trans (hb6.mono hb5.size)
      clear hb5
      have hFl : (filt ds (ded ss)).length ≤ ss.length := Nat.le_trans (filt_len _ _) (ded_len _)
      have hF1 := hide (filt_pairwise (ds := ds) (ded_ahead ss))
      have hF2 : Hid (∀ s, s ∈ filt ds (ded ss) ↔ s ∈ ss ∧ s ∉ ds) := fun s => by rw [mem_filt, mem_ded]
      have hF3 := hide (filt_more ds (ded ss) x)
      obtain ⟨F, hF⟩ : ∃ F, filt ds (ded ss) = F := ⟨_, rfl⟩
      rw [hF] at hFl hF1 hF2 hF3 hown
      clear hF
      obtain ⟨g, gcap, rfl, hgc, hrg, hgn⟩ := own_row hown
      clear hown hgn hgc
      go_wp2_with fail
      go_loop [13, 14] (fun l i => ∃ (k : Nat) (n : Int), k ≤ F.length ∧ i = .int .i64 k ∧ l = .int .i64 n ∧ LastIs ss F k n) (fun _ i => F.length - (intOf i).toNat)
      case atStart => exact ⟨0, -1, Nat.zero_le _, rfl, rfl, Or.inl ⟨rfl, rfl⟩⟩
      case round =>
        obtain ⟨k, n, hk, rfl, rfl, hlast⟩ := hrel
        have Hl := hide hlast
        clear hlast
        by_cases hlt : k < F.length
        · obtain ⟨bb, off, s, rfl, hs1, hc⟩ := hrg.get hlt
          have HS := hide hs1
          have hmem := (hF2.out s).1 (hs1 ▸ getD_mem hlt)
          clear hs1
          go_wp2_with fail
          refine (indexOf_any c1 _ ds s _ hrc (by omega)).mono ?_
          rintro e w7 ⟨⟨m0, rfl, hm0⟩, hw⟩
          subst w7
          have hm0' := idx_neg hmem.2 hm0
          subst hm0'
          clear hm0
          go_wp2_with fail
          refine (indexOf_any a1 _ ss s _ hra (by omega)).mono ?_
          rintro e w7 ⟨⟨m, rfl, hm⟩, hw⟩
          subst w7
          have hlt2 : n < m := last_lt hF1.out (fun s hs => ((hF2.out s).1 hs).1) hlt Hl.out (HS.out ▸ hm)
          have Hm := hide hm
          clear hm hmem
          go_wp2
          go_round
          case rel => exact ⟨k + 1, m, by omega, by go_num, rfl, Or.inr ⟨k, rfl, HS.out ▸ Hm.out⟩⟩
          case measure => simp [intOf]; omega
        · go_wp2_with fail
          clear Hl hlt hk
          go_loop [16] (fun i => ∃ (k : Nat), k ≤ ss.length ∧ i = .int .i64 k) (fun i => ss.length - (intOf i).toNat)
          case atStart => exact ⟨0, Nat.zero_le _, rfl⟩
          case round =>
            obtain ⟨k2, hk2, rfl⟩ := hrel
            by_cases hlt2 : k2 < ss.length
            · obtain ⟨bb, off, s, rfl, hs1, hc⟩ := hra.get hlt2
              have hmem : s ∈ ss := hs1 ▸ getD_mem hlt2
              clear hs1
              go_wp2_with fail
              refine (indexOf_any c1 _ ds s _ hrc (by omega)).mono ?_
              rintro e w7 ⟨⟨m0, rfl, hm0⟩, hw⟩
              subst w7
              cases hin : inB ds s
              · have hm0' := idx_neg (inB_false.1 hin) hm0
                subst hm0'
                clear hm0
                go_wp2_with fail
                refine (indexOf_any g _ F s _ hrg (by omega)).mono ?_
                rintro e w7 ⟨⟨m, rfl, hm⟩, hw⟩
                subst w7
                have hm1 : 0 ≤ m := idx_nonneg ((hF2.out s).2 ⟨hmem, inB_false.1 hin⟩) hm
                clear hm
                go_wp2
                go_round
                case rel => exact ⟨k2 + 1, by omega, by go_num⟩
                case measure => simp [intOf]; omega
              · have hm1 : 0 ≤ m0 := idx_nonneg (inB_iff.1 hin) hm0
                clear hm0
                go_wp2
                go_round
                case rel => exact ⟨k2 + 1, by omega, by go_num⟩
                case measure => simp [intOf]; omega
            · go_wp2_with fail
              clear hlt2 hk2
              refine (zzUndeclared_any a2 _ none ss [] _ hrf (Or.inl ⟨rfl, rfl⟩) (by omega) hs).mono ?_
              rintro e w7 ⟨v, rfl, hown, hb7⟩
              rw [filt_none] at hown
              obtain ⟨g1, gcap1, rfl, _, hrg1, _⟩ := own_row hown
              replace hrg := hrg.below hb7
              replace hrf := hrf.below hb7
              replace hhas := hhas.below hb7
              replace hb7 : Below w.heap.size w w7 := hb6.trans (hb7.mono hb6.size)
              clear hb6 hown hra hrc
              go_wp2_with fail
              refine (zzReferred_any a2 _ ss _ hrf (by omega)).mono ?_
              rintro e w8 ⟨v, rfl, hown, hb8⟩
              obtain ⟨g2, gcap2, rfl, _, hrg2, _⟩ := own_row hown
              replace hrg1 := hrg1.below hb8
              replace hrg := hrg.below hb8
              replace hrf := hrf.below hb8
              replace hhas := hhas.below hb8
              replace hb8 : Below w.heap.size w w8 := hb7.trans (hb8.mono hb7.size)
              clear hb7 hown
              have hdl := ded_len ss
              go_wp2_with fail
              refine (equal_same g1 g2 _ _ _ _ (ded ss) _ hrg1 hrg2 (by omega) rfl rfl).mono ?_
              rintro e w9 ⟨rfl, hd9⟩
              replace hrg := hrg.dr hd9
              replace hrf := hrf.below (hd9.below _)
              replace hhas := hhas.below (hd9.below _)
              replace hd9 : Below w.heap.size w w9 := hb8.trans (hd9.below _)
              clear hb8 hrg1 hrg2
              obtain ⟨D, hown, hhD⟩ := hhas
              have hkey := keyOf_string_mk Try.underlying9 hx
              have hp := has_put hown.isMap hhD x (.lit (.int .i64 (-1)))
              have Hp := hide hp
              clear hp hhD
              have hBlt : B < w9.heap.size := hown.lt
              go_wp2_with (first | (at_mapUpdate; refine wpList_mapUpdate_own _ rfl _ _ _ 31 rfl 9 3 law Try.underlying31 _ B _ _ rfl hown (by unfold maxLen; omega) _ _ _ rfl rfl hkey _ [] (plainElem_int Try.underlying3 (by decide)) ?_; intro w10 hown10 hg10) | fail)
              replace hrg := hrg.map hown hg10
              replace hrf := hrf.map hown hg10
              have hb10 : Below w.heap.size w w10 := hd9.grown hg10 hd9.size (fun j hj => by cases hj; exact hBge)
              refine (zzUndeclared_any a2 _ (some B) ss (ds ++ [x]) _ hrf (Or.inr ⟨B, _, rfl, _, hown10, Hp.out⟩) (by omega) hs).mono ?_
              rintro e w11 ⟨v, rfl, hown11, hb11⟩
              rw [hF3.out] at hown11
              replace hrg := hrg.below hb11
              replace hb11 : Below w.heap.size w w11 := hb10.trans (hb11.mono hb10.size)
              have hEl : (F.filter (fun s => !inB [x] s)).length ≤ F.length := List.length_filter_le _ _
              have hE : Hid (F.filter (fun s => !inB [x] s) = drop1 x F) := rfl
              obtain ⟨E, hEE⟩ : ∃ E, F.filter (fun s => !inB [x] s) = E := ⟨_, rfl⟩
              rw [hEE] at hEl hE hown11
              clear hEE
              obtain ⟨g5, gcap5, rfl, _, hrg5, _⟩ := own_row hown11
              clear hb10 hown10 hown hd9 hrf Hp hg10 hown11 hBlt
              go_wp2_with fail
              go_loopw [18, 19] (fun j i wr => ∃ (k : Nat) (n : Nat), k ≤ F.length ∧ i = .int .i64 k ∧ j = .int .i64 n ∧ n = (drop1 x (F.take k)).length ∧ Dr w11 wr) (fun _ i _ => F.length - (intOf i).toNat)
              case atStart => exact ⟨0, 0, Nat.zero_le _, rfl, rfl, rfl, Dr.refl _⟩
              case round =>
                obtain ⟨k, n, hk, rfl, rfl, hn, hdr⟩ := hrel
                have hnk : n ≤ k := by
                  have h1 : (drop1 x (F.take k)).length ≤ (F.take k).length := List.length_filter_le _ _
                  have h2 : (F.take k).length ≤ k := List.length_take_le _ _
                  omega
                have Hn := hide hn
                clear hn
                by_cases hlt : k < F.length
                · obtain ⟨bb, off, s, rfl, hs1, hc⟩ := (hrg.dr hdr).get hlt
                  have HS := hide hs1
                  clear hs1
                  cases hsx : (s.toList == x.toList)
                  · have hnx := drop1_next hlt HS.out hsx
                    rw [← Hn.out, ← hE.out] at hnx
                    obtain ⟨hn1, hn2⟩ := hnx
                    obtain ⟨bb5, off5, s5, rfl, hs5, hc5⟩ := (hrg5.dr hdr).get hn1
                    obtain rfl : s5 = s := hs5.trans hn2
                    clear hs5 hn2
                    go_wp2_with fail
                    go_quiet (fail)
                    go_wp2
                    go_roundw
                    case rel => exact ⟨k + 1, n + 1, by omega, by go_num, by go_num, by rw [take_snoc F k hlt, ← HS.out, drop1_snoc, hsx, Hn.out]; simp, hdr.on _⟩
                    case measure => simp [intOf]; omega
                  · go_wp2_with fail
                    go_roundw
                    case rel => exact ⟨k + 1, n, by omega, by go_num, rfl, by rw [take_snoc F k hlt, ← HS.out, drop1_snoc, hsx, Hn.out]; simp, hdr⟩
                    case measure => simp [intOf]; omega
                · obtain rfl : n = E.length := by rw [Hn.out, List.take_of_length_le (by omega), hE.out]
                  go_wp2
                  go_ret
                  exact ⟨ret_bool (by simp), hb11.trans (hdr.below _)⟩
end Go.Proofs.Qxb6001664a
