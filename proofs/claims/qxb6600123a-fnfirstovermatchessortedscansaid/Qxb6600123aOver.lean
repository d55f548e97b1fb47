import Derived.Test.Qxb6600123aPlain
namespace Go.Proofs.Qxb6600123a
open Go.RowKit

theorem win_get (A W C : List Int) {i : Nat} (hi : i < W.length) : (A ++ (W ++ C)).getD (A.length + i) 0 = W.getD i 0 := by
  rw [List.getD, List.getD, List.getElem?_append_right (by omega), Nat.add_sub_cancel_left, List.getElem?_append_left hi]
theorem win_set (A W C : List Int) {i : Nat} (hi : i < W.length) (v : Int) : (A ++ (W ++ C)).set (A.length + i) v = A ++ (W.set i v ++ C) := by
  rw [List.set_append_right _ _ (by omega), Nat.add_sub_cancel_left, List.set_append_left _ _ hi]

/-- the window W of the row in block B, at offset o -/
def Win (w : World) (lo B o : Nat) (W : List Int) : Prop := ∃ A C, A.length = o ∧ OwnI w lo (some ⟨B, 0, none⟩) (A ++ (W ++ C))
theorem Win.cell {w : World} {lo B o : Nat} {W : List Int} (h : Win w lo B o W) {i : Nat} (hi : i < W.length) : w.cell? ⟨B, o + i, none⟩ = some (.int .i64 (W.getD i 0)) := by
  obtain ⟨A, C, rfl, h⟩ := h
  rw [h.cell (k := A.length + i) (by simp; omega), win_get A W C hi]
theorem Win.frozen {w : World} {lo B o : Nat} {W : List Int} (h : Win w lo B o W) (i : Nat) : w.frozen? ⟨B, i, none⟩ = false := by
  obtain ⟨A, C, rfl, h⟩ := h
  exact h.frozen i
theorem Win.set {w : World} {lo B o : Nat} {W : List Int} (h : Win w lo B o W) {i : Nat} (hi : i < W.length) (v : Int) :
    Win (w.setCell ⟨B, o + i, none⟩ (.int .i64 v)) lo B o (W.set i v) ∧ w.grownBy (w.setCell ⟨B, o + i, none⟩ (.int .i64 v)) (some B) := by
  obtain ⟨A, C, rfl, h⟩ := h
  obtain ⟨h1, h2⟩ := h.set (A.length + i) v
  rw [win_set A W C hi] at h1
  exact ⟨⟨A, C, rfl, h1⟩, h2⟩
theorem Win.swap {w : World} {lo B o : Nat} {W : List Int} (h : Win w lo B o W) {i j : Nat} (hi : i < W.length) (hj : j < W.length) :
    Win ((w.setCell ⟨B, o + i, none⟩ (.int .i64 (W.getD j 0))).setCell ⟨B, o + j, none⟩ (.int .i64 (W.getD i 0))) lo B o (Qxb6600123a.swap i j W) ∧
      w.grownBy ((w.setCell ⟨B, o + i, none⟩ (.int .i64 (W.getD j 0))).setCell ⟨B, o + j, none⟩ (.int .i64 (W.getD i 0))) (some B) := by
  obtain ⟨h1, h2⟩ := h.set hi (W.getD j 0)
  obtain ⟨h3, h4⟩ := h1.set (i := j) (by simpa using hj) (W.getD i 0)
  exact ⟨h3, grown_trans h2 h4⟩
theorem Win.dr {w w' : World} {lo B o : Nat} {W : List Int} (h : Win w lo B o W) (hd : Dr w w') : Win w' lo B o W := by
  obtain ⟨A, C, hA, h⟩ := h
  exact ⟨A, C, hA, h.dr hd⟩
theorem Win.take {w : World} {lo B o : Nat} {W : List Int} (h : Win w lo B o W) (k : Nat) : Win w lo B o (W.take k) := by
  obtain ⟨A, C, hA, h⟩ := h
  refine ⟨A, W.drop k ++ C, hA, ?_⟩
  rw [← List.append_assoc (W.take k), List.take_append_drop]
  exact h
theorem Win.drop {w : World} {lo B o : Nat} {W : List Int} (h : Win w lo B o W) (k : Nat) (hk : k ≤ W.length) : Win w lo B (o + k) (W.drop k) := by
  obtain ⟨A, C, hA, h⟩ := h
  refine ⟨A ++ W.take k, C, by simp; omega, ?_⟩
  rw [List.append_assoc, ← List.append_assoc (W.take k), List.take_append_drop]
  exact h

/-- the units -/
structure Units (w : World) (U : Nat) (us : List Int) : Prop where
  len : us.length = 64
  cell : ∀ j, j < 64 → w.cell? ⟨U, j, none⟩ = some (.int .i64 (us.getD j 0))
  pos : ∀ j, 0 ≤ us.getD j 0
  top : ∀ j, us.getD j 0 ≤ 262144
def cost (us : List Int) (k : Int) : Int := us.getD (k % 64).toNat 0
theorem Units.cost {w : World} {U : Nat} {us : List Int} (h : Units w U us) (k : Int) : w.cell? ⟨U, (k % 64).toNat, none⟩ = some (.int .i64 (Qxb6600123a.cost us k)) := h.cell _ (by omega)
theorem Units.grown {w w' : World} {U B : Nat} {us : List Int} (h : Units w U us) (hg : w.grownBy w' (some B)) (hne : U ≠ B) : Units w' U us :=
  ⟨h.len, fun j hj => by
    have hc := h.cell j hj
    rw [World.cell?_of_block (hg.block U (block_lt_of_cell hc) (fun e => hne (Option.some.inj e)))]
    exact hc, h.pos, h.top⟩

theorem i64_and63 (n : Int) : bits .and .i64 n 63 = n % 64 := by
  have h63 : (BitVec.ofInt 64 63).toNat = 2 ^ 6 - 1 := by decide
  have key : (BitVec.ofInt 64 n &&& BitVec.ofInt 64 63).toNat = (n % ((2 ^ 64 : Nat) : Int)).toNat % 2 ^ 6 := by
    rw [BitVec.toNat_and, BitVec.toNat_ofInt, h63, Nat.and_two_pow_sub_one_eq_mod]
  show IntKind.i64.wrap ((BitVec.ofInt 64 n &&& BitVec.ofInt 64 63).toNat : Nat) = n % 64
  rw [key, IntKind.wrap_i64]
  omega

/-- what firstOver hands back -/
def OverRet (c : Int → Int) (room : Int) (L : List Int) (e : Ending) : Prop := ∃ key ok, e = .returned (.tuple #[.int .i64 key, .bool ok]) ∧ Ans c room L key ok

set_option maxHeartbeats 4000000 in
set_option maxRecDepth 100000 in
theorem over_any (B U lo n cp : Nat) (L us : List Int) (room : Int) (w : World) (hW : Win w lo B 0 L) (hU : Units w U us) (hUB : U ≠ B) (hn : L.length = n) (hn0 : n ≤ 4096) (hcp : n ≤ cp) (hap : L.Pairwise (· ≠ ·)) (hr0 : 0 ≤ room) (hr1 : room ≤ 9223372036854775807) :
    Calls Try.prog 39 #[.slice (some ⟨B, 0, none⟩) n cp, .slice (some ⟨U, 0, none⟩) 64 64, .int .i64 room] w fun e w' => OverRet (cost us) room L e ∧ w.grownBy w' (some B) := by
  have h63 := i64_and63
  go_enter Try.func39, Try.ntmps39
  go_wp2
  go_loopw [0, 2] (fun v r wr => ∃ (ad : Option Addr) (n cp o : Nat) (W : List Int) (q : Int), v = .slice ad n cp ∧ r = .int .i64 q ∧ W.length = n ∧ (0 < n → ad = some ⟨B, o, none⟩) ∧ n ≤ cp ∧ n ≤ 4096 ∧ 0 ≤ q ∧ q ≤ room ∧ W.Pairwise (· ≠ ·) ∧ Win wr lo B o W ∧
      (∀ key ok, Ans (cost us) q W key ok → Ans (cost us) room L key ok) ∧ w.grownBy wr (some B)) (fun v _ _ => match v with | .slice _ n _ => n | _ => 0)
  case atStart => exact ⟨_, _, _, 0, L, room, rfl, rfl, hn, fun _ => rfl, hcp, hn0, hr0, Int.le_refl _, hap, hW, fun _ _ h => h, ⟨rfl, rfl, rfl, Nat.le_refl _, fun _ _ _ => rfl⟩⟩
  case round =>
    obtain ⟨ad, n, cp, o, W, q, rfl, rfl, hWl, had, hcp, hn0, hq0, hq1, hap, hWin, hAns, hg⟩ := hrel
    cases n with
    | zero =>
      have hW0 : W = [] := List.length_eq_zero_iff.1 hWl
      subst hW0
      have HA := hide (hAns 0 false (scan_miss (by simpa [sumC] using hq0)))
      clear hAns had
      go_wp2
      go_ret2
      exact ⟨⟨0, false, rfl, HA.out⟩, hg⟩
    | succ l =>
      obtain rfl := had (by omega)
      obtain ⟨mid, hmid⟩ : ∃ m : Nat, ((l : Int) + 1) / 2 = (m : Int) := ⟨(l + 1) / 2, by omega⟩
      have hml : mid ≤ l := by omega
      have c1 := hWin.cell (i := mid) (by omega)
      have c2 := hWin.cell (i := l) (by omega)
      have f1 := hWin.frozen (o + mid)
      have f2 := hWin.frozen (o + l)
      have hsw := hWin.swap (i := mid) (j := l) (by omega) (by omega)
      have hsg := swap_get (i := mid) (j := l) (l := W) (by omega) (by omega) l
      have hsp := swap_perm (i := mid) (j := l) (l := W) (by omega) (by omega)
      obtain ⟨z1, hz1⟩ : ∃ z, W.getD mid 0 = z := ⟨_, rfl⟩
      obtain ⟨z2, hz2⟩ : ∃ z, W.getD l 0 = z := ⟨_, rfl⟩
      rw [hz1] at c1 hsw hsg
      rw [hz2] at c2 hsw hsg
      rw [if_pos rfl] at hsg
      obtain ⟨u, hu⟩ := cell?_setCell_some (w := wr) (p := ⟨B, o + mid, none⟩) (x := .int .i64 z2) (q := ⟨B, o + l, none⟩) (v := .int .i64 z2) c2
      obtain ⟨V0, hV0⟩ : ∃ V, swap mid l W = V := ⟨_, rfl⟩
      rw [hV0] at hsw hsg hsp
      have hap0 : V0.Pairwise (· ≠ ·) := (hsp.symm.pairwise_iff (fun {a b} (h : a ≠ b) => h.symm)).1 hap
      have hl0 : V0.length = l + 1 := by rw [hsp.length_eq]; exact hWl
      have hA0 : ∀ key ok, Ans (cost us) q V0 key ok → Ans (cost us) room L key ok := fun key ok h => hAns key ok (ans_perm hsp h)
      have hpt : Part V0 0 0 z1 := by
        have := part_start (W := V0) (by omega)
        rwa [hl0, Nat.add_sub_cancel, hsg] at this
      have hx1 : Win ((wr.setCell ⟨B, o + mid, none⟩ (.int .i64 z2)).setCell ⟨B, o + l, none⟩ (.int .i64 z1)).drew lo B o V0 := hsw.1.dr ⟨1, rfl⟩
      have hx2 : w.grownBy ((wr.setCell ⟨B, o + mid, none⟩ (.int .i64 z2)).setCell ⟨B, o + l, none⟩ (.int .i64 z1)).drew (some B) := grown_trans (grown_trans hg hsw.2) (Dr.grown ⟨1, rfl⟩ _)
      have hx3 := hx1.cell (i := l) (by omega)
      rw [hsg] at hx3
      have HA := hide hA0
      have Hl := hide hl0
      have Hp := hide hpt
      have Hap := hide hap0
      clear hAns hz1 hz2 hWl had hA0 hl0 hpt hap0 hap hV0 hsg hsp hsw hWin hg
      go_wp2
      go_region
      clear c1 c2 f1 f2 hu
      generalize ((wr.setCell ⟨B, o + mid, none⟩ (.int .i64 z2)).setCell ⟨B, o + l, none⟩ (.int .i64 z1)).drew = W1 at *
      go_wp2
      clear hx3 hmid hml
      go_loopw [11, 48] (fun hv tv wr => ∃ (h t : Nat) (V : List Int), t ≤ l ∧ h ≤ t ∧ hv = .int .i64 h ∧ tv = .int .i64 t ∧ V.length = l + 1 ∧ V.Perm V0 ∧ Part V h t z1 ∧ Win wr lo B o V ∧ w.grownBy wr (some B)) (fun _ tv _ => l - (intOf tv).toNat)
      case atStart => exact ⟨0, 0, V0, Nat.zero_le _, Nat.le_refl _, rfl, rfl, Hl.out, List.Perm.refl _, Hp.out, hx1, hx2⟩
      case round =>
        clear hx1 hx2 Hp
        obtain ⟨h, t, V, htl, hht, rfl, rfl, hVl, hVp, hVt, hWin, hg⟩ := hrel
        by_cases hlt : t < l
        · have c1 := hWin.cell (i := t) (by omega)
          have c2 := hWin.cell (i := h) (by omega)
          have f1 := hWin.frozen (o + t)
          have f2 := hWin.frozen (o + h)
          have hsw := hWin.swap (i := t) (j := h) (by omega) (by omega)
          have hsp := swap_perm (i := t) (j := h) (l := V) (by omega) (by omega)
          have hsk : V.getD t 0 ≤ z1 → Part V h (t + 1) z1 := fun hk => part_skip hVt (by omega) hk
          have hst : z1 < V.getD t 0 → Part (swap t h V) (h + 1) (t + 1) z1 := fun hk => part_take hVt (by omega) hk
          obtain ⟨k1, hk1⟩ : ∃ z, V.getD t 0 = z := ⟨_, rfl⟩
          obtain ⟨k2, hk2⟩ : ∃ z, V.getD h 0 = z := ⟨_, rfl⟩
          rw [hk1] at c1 hsw hsk hst
          rw [hk2] at c2 hsw
          obtain ⟨u, hu⟩ := cell?_setCell_some (w := wr) (p := ⟨B, o + t, none⟩) (x := .int .i64 k2) (q := ⟨B, o + h, none⟩) (v := .int .i64 k2) c2
          by_cases hgt : z1 < k1
          · have HT := hide (hst hgt)
            have Hw1 := hide hsw.1
            have Hw2 := hide (grown_trans hg hsw.2)
            have Hsp := hide (hsp.trans hVp)
            have Hvl := hide hVl
            clear hsk hst hsw hsp hg hWin hVt hVp hVl hk1 hk2
            go_wp2
            go_roundw
            case rel => exact ⟨h + 1, t + 1, _, by omega, by omega, by go_num, by go_num, by rw [swap_length]; exact Hvl.out, Hsp.out, HT.out, Hw1.out, Hw2.out⟩
            case measure => simp [intOf]; omega
          · have HT := hide (hsk (by omega))
            have Hsp := hide hVp
            have Hvl := hide hVl
            clear hsk hst hsw hsp hVt hVp hVl hk1 hk2 hu
            go_wp2
            go_roundw
            case rel => exact ⟨h, t + 1, V, by omega, by omega, rfl, by go_num, Hvl.out, Hsp.out, HT.out, hWin, hg⟩
            case measure => simp [intOf]; omega
        · obtain rfl : t = l := by omega
          have c1 := hWin.cell (i := t) (by omega)
          have c2 := hWin.cell (i := h) (by omega)
          have f1 := hWin.frozen (o + t)
          have f2 := hWin.frozen (o + h)
          have hsw := hWin.swap (i := h) (j := t) (by omega) (by omega)
          have hlast : V.getD t 0 = z1 := by
            have := hVt.lst
            rwa [hVl, Nat.add_sub_cancel] at this
          have hend := part_end (W := V) (h := h) (p := z1) (by rw [hVl, Nat.add_sub_cancel]; exact hVt) ((hVp.symm.pairwise_iff (fun {a b} (h : a ≠ b) => h.symm)).1 Hap.out)
          rw [hVl, Nat.add_sub_cancel] at hend
          obtain ⟨k2, hk2⟩ : ∃ z, V.getD h 0 = z := ⟨_, rfl⟩
          rw [hlast] at c1 hsw
          rw [hk2] at c2 hsw
          obtain ⟨u, hu⟩ := cell?_setCell_some (w := wr) (p := ⟨B, o + h, none⟩) (x := .int .i64 z1) (q := ⟨B, o + t, none⟩) (v := .int .i64 z1) c1
          obtain ⟨X, hX⟩ : ∃ X, swap h t V = X := ⟨_, rfl⟩
          rw [hX] at hsw hend
          have hXl : X.length = t + 1 := hend.2.1
          have HE := hide (And.intro hend.2.2.1 (And.intro hend.2.2.2.1 hend.2.2.2.2))
          have HapX : Hid (X.Pairwise (· ≠ ·)) := ((hend.1.trans hVp).symm.pairwise_iff (fun {a b} (h : a ≠ b) => h.symm)).1 Hap.out
          have HA2 : Hid (∀ key ok, Ans (cost us) q X key ok → Ans (cost us) room L key ok) := fun key ok hh => HA.out key ok (ans_perm (hend.1.trans hVp) hh)
          have hx1 := hsw.1
          have hx2 := grown_trans hg hsw.2
          clear hsw hend hX hVl hVp hVt hlast hk2 hWin hg
          go_wp2
          clear c1 c2 f1 f2 hu
          generalize ((wr.setCell ⟨B, o + h, none⟩ (.int .i64 z1)).setCell ⟨B, o + t, none⟩ (.int .i64 k2)) = W2 at *
          have hU2 := hU.grown hx2 hUB
          have HXl := hide hXl
          clear hXl
          have hcb : ∀ k, 0 ≤ cost us k ∧ cost us k ≤ 262144 := fun k => ⟨hU.pos _, hU.top _⟩
          have Hcb := hide hcb
          clear hcb
          go_loop [14, 85] (fun av jv => ∃ j : Nat, j ≤ h ∧ jv = .int .i64 j ∧ av = .int .i64 (sumC (cost us) (X.take j))) (fun _ jv => h - (intOf jv).toNat)
          case atStart => exact ⟨0, Nat.zero_le _, rfl, rfl⟩
          case round =>
            obtain ⟨j, hj, rfl, rfl⟩ := hrel
            have hs0 := sumC_nonneg (c := cost us) (fun k => (Hcb.out k).1) (X.take j)
            have hs1 := sumC_le (c := cost us) (fun k => (Hcb.out k).2) (X.take j)
            have hs2 : (X.take j).length ≤ j := List.length_take_le _ _
            by_cases hlt2 : j < h
            · have c1 := hx1.cell (i := j) (by rw [HXl.out]; omega)
              have hst := sumC_take (c := cost us) (l := X) (k := j) (by rw [HXl.out]; omega)
              obtain ⟨kz, hkz⟩ : ∃ z, X.getD j 0 = z := ⟨_, rfl⟩
              rw [hkz] at c1 hst
              have c2 := hU2.cost kz
              have hb := Hcb.out kz
              have Hst := hide hst
              clear hst hkz
              generalize sumC (cost us) (X.take j) = S at *
              generalize cost us kz = ck at *
              go_wp2
              go_round
              case rel => exact ⟨j + 1, by omega, by go_num, val_int (by rw [Hst.out])⟩
              case measure => simp [intOf]; omega
            · obtain rfl : j = h := by omega
              clear hlt2 hj hs2
              have hs2 : (X.take j).length ≤ j := List.length_take_le _ _
              have c2 := hU2.cost z1
              have hb := Hcb.out z1
              have hhi : ∀ key ok, q < sumC (cost us) (X.take j) → Ans (cost us) q (X.take j) key ok → Ans (cost us) room L key ok := fun key ok h1 h2 =>
                HA2.out key ok (by rw [HE.out.1]; exact ans_high HE.out.2.1 HE.out.2.2 h1 h2)
              have hmi : sumC (cost us) (X.take j) ≤ q → q < sumC (cost us) (X.take j) + cost us z1 → Ans (cost us) room L z1 true := fun h1 h2 =>
                HA2.out z1 true (by rw [HE.out.1]; exact ans_mid HE.out.2.1 HE.out.2.2 h1 h2)
              have hlo : ∀ key ok, Ans (cost us) (q - (sumC (cost us) (X.take j) + cost us z1)) (X.drop (j + 1)) key ok → Ans (cost us) room L key ok := fun key ok h2 =>
                HA2.out key ok (by rw [HE.out.1]; exact ans_low HE.out.2.1 HE.out.2.2 h2)
              have hapX : (X.take j ++ z1 :: X.drop (j + 1)).Pairwise (· ≠ ·) := by rw [← HE.out.1]; exact HapX.out
              have hap1 : (X.take j).Pairwise (· ≠ ·) := (List.pairwise_append.1 hapX).1
              have hap2 : (X.drop (j + 1)).Pairwise (· ≠ ·) := (List.pairwise_cons.1 (List.pairwise_append.1 hapX).2.1).2
              have hw1 := hx1.take j
              have hw2 := hx1.drop (j + 1) (by rw [HXl.out]; omega)
              have hl1 : (X.take j).length = j := by rw [List.length_take, HXl.out]; omega
              have hl2 : (X.drop (j + 1)).length = t - j := by rw [List.length_drop, HXl.out]; omega
              have Hhi := hide hhi
              have Hmi := hide hmi
              have Hlo := hide hlo
              have Hap1 := hide hap1
              have Hap2 := hide hap2
              have Hl1 := hide hl1
              have Hl2 := hide hl2
              clear hhi hmi hlo hap1 hap2 hl1 hl2 hapX
              obtain ⟨S, hS⟩ : ∃ S, sumC (cost us) (X.take j) = S := ⟨_, rfl⟩
              obtain ⟨ck, hck⟩ : ∃ ck, cost us z1 = ck := ⟨_, rfl⟩
              rw [hS] at hs0 hs1 Hhi Hmi Hlo
              rw [hck] at c2 hb Hmi Hlo
              simp only [hS]
              clear hS hck
              by_cases g1 : q < S
              · go_wp2
                go_roundw
                case rel => exact ⟨_, _, _, o, X.take j, q, rfl, rfl, Hl1.out, fun _ => rfl, by omega, by omega, hq0, hq1, Hap1.out, hw1, fun key ok h => Hhi.out key ok g1 h, hx2⟩
                case measure => simp; omega
              · by_cases g2 : q < S + ck
                · go_wp2
                  go_ret2
                  exact ⟨⟨z1, true, rfl, Hmi.out (by omega) g2⟩, hx2⟩
                · by_cases g3 : cp = j + 1
                  · go_wp2
                    go_roundw
                    case rel => exact ⟨_, _, _, o + (j + 1), X.drop (j + 1), q - (S + ck), rfl, rfl, Hl2.out, fun h => by omega, by omega, by omega, by omega, by omega, Hap2.out, hw2, Hlo.out, hx2⟩
                    case measure => simp; omega
                  · go_wp2
                    go_roundw
                    case rel => exact ⟨_, _, _, o + (j + 1), X.drop (j + 1), q - (S + ck), rfl, rfl, Hl2.out, fun h => rfl, by omega, by omega, by omega, by omega, Hap2.out, hw2, Hlo.out, hx2⟩
                    case measure => simp; omega
end Go.Proofs.Qxb6600123a
