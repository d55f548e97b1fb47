import Derived.Test.Qxb6002381aJoin
import Derived.Test.Qxb6002381aDist
namespace Go.Proofs.Qxb6002381a
open Go.RowKit Go.Maps

theorem grew (w : World) (o : Obj) : Below w.heap.size w (w.alloc o) := (Below.refl _ _).alloc (Nat.le_refl _) _
/-- a new block of one cell, still there behind whatever leaves old blocks alone -/
theorem new_cell {w w' : World} {v : Value} {t : TypeId} (hb : Below (w.alloc (.cells #[v] t)).heap.size (w.alloc (.cells #[v] t)) w') : w'.cell? ⟨w.heap.size, 0, none⟩ = some v := by
  rw [hb.cell (p := ⟨w.heap.size, 0, none⟩) (by simp)]
  go_cell
theorem old_cell {w w' : World} {a : Addr} {v : Value} (hc : w.cell? a = some v) (hb : Below w.heap.size w w') : w'.cell? a = some v := by
  rw [hb.cell (block_lt_of_cell hc)]; exact hc

theorem Dr.below {w w' : World} (h : Dr w w') (B : Nat) : Below B w w' := by
  obtain ⟨n, rfl⟩ := h
  induction n with
  | zero => exact Below.refl _ _
  | succ n ih => exact ih.trans ((Below.refl _ _).drew)

/-- what the law's body knows of the world once the three registers stand -/
structure St (w W : World) (P Q J : Nat) (m1 m2 m : Option Nat) (a1 b1 : Option Addr) (ss tt : List ByteArray) : Prop where
  hb : Below w.heap.size w W
  cp : W.cell? ⟨P, 0, none⟩ = some (.map m1)
  cq : W.cell? ⟨Q, 0, none⟩ = some (.map m2)
  cj : W.cell? ⟨J, 0, none⟩ = some (.map m)
  ra : Row W a1 ss
  rb : Row W b1 tt
  h1 : Reg W m1 ss
  h2 : Reg W m2 tt
  h3 : Reg W m (ss ++ tt)
theorem St.below {w W W' : World} {P Q J : Nat} {m1 m2 m : Option Nat} {a1 b1 : Option Addr} {ss tt : List ByteArray} (h : St w W P Q J m1 m2 m a1 b1 ss tt) (hb : Below W.heap.size W W') : St w W' P Q J m1 m2 m a1 b1 ss tt :=
  ⟨h.hb.trans (hb.mono h.hb.size), old_cell h.cp hb, old_cell h.cq hb, old_cell h.cj hb, h.ra.below hb, h.rb.below hb, h.h1.below hb, h.h2.below hb, h.h3.below hb⟩
theorem St.dr {w W W' : World} {P Q J : Nat} {m1 m2 m : Option Nat} {a1 b1 : Option Addr} {ss tt : List ByteArray} (h : St w W P Q J m1 m2 m a1 b1 ss tt) (hd : Dr W W') : St w W' P Q J m1 m2 m a1 b1 ss tt := h.below (hd.below _)

theorem len_n (m : Option Nat) (ss : List ByteArray) (n : Nat) (w : World) (hm : Reg w m ss) (h : d1 ss ss.length = n) :
    Calls Try.prog 14 #[.agg #[.map m]] w fun e w' => e = .returned (.int .i64 n) ∧ Below w.heap.size w w' := by
  subst h; exact len_any m ss w hm
theorem has_r (m : Option Nat) (ss : List ByteArray) (x : ByteArray) (r : Bool) (w : World) (hm : Reg w m ss) (hx : x.size ≤ maxLen) (h : inB ss x = r) :
    Calls Try.prog 16 #[.agg #[.map m], .string x] w fun e w' => e = .returned (.bool r) ∧ Below w.heap.size w w' := by
  subst h; exact has_any m ss x w hm hx
theorem dist_n (a b : Option Addr) (l1 l2 cap capb : Nat) (ss tt : List ByteArray) (n : Nat) (w : World) (hr : Row w a ss) (hr2 : Row w b tt) (hl : ss.length ≤ 4096) (hl2 : tt.length ≤ 4096) (hc1 : ss.length ≤ cap) (hc2 : tt.length ≤ capb)
    (e1 : l1 = ss.length) (e2 : l2 = tt.length) (h : d1 ss ss.length + d2 ss tt tt.length = n) :
    Calls Try.prog 15 #[.slice a l1 cap, .slice b l2 capb] w fun e w' => e = .returned (.int .i64 (n : Int)) ∧ Dr w w' := by
  subst e1; subst e2; subst h; exact lawDistinct_any a b cap capb ss tt w hr hr2 hl hl2 hc1 hc2
theorem count_two (ss tt : List ByteArray) : d1 (ss ++ tt) (ss ++ tt).length = d1 ss ss.length + d2 ss tt tt.length := by
  rw [← size_reg]
  have := size_reg_two ss tt tt.length (Nat.le_refl _)
  rwa [List.take_length] at this

theorem inB_mem {ss : List ByteArray} {s : ByteArray} (h : s ∈ ss) : inB ss s = true := by
  unfold inB; exact List.any_eq_true.2 ⟨s, h, by simp⟩

set_option maxHeartbeats 2000000 in
theorem main_any (a0 b0 : Option Addr) (cap0 capb : Nat) (ss tt : List ByteArray) (x : ByteArray) (w : World) (hr : Row w a0 ss) (hr2 : Row w b0 tt) (hn : a0 = none → ss = []) (hn2 : b0 = none → tt = [])
    (hl : ss.length ≤ maxLen) (hl2 : tt.length ≤ maxLen) (hs : ∀ s ∈ ss, s.size ≤ maxLen) (ht : ∀ s ∈ tt, s.size ≤ maxLen) (hx : x.size ≤ maxLen) :
    Calls Try.prog 5 #[.slice a0 ss.length cap0, .slice b0 tt.length capb, .string x] w fun e w' => e = .returned (.bool true) ∧ Below w.heap.size w w' := by
  have hl' : ss.length ≤ 9223372036854775807 := by unfold maxLen at hl; exact hl
  have hl2' : tt.length ≤ 9223372036854775807 := by unfold maxLen at hl2; exact hl2
  have hx' : x.size ≤ 9223372036854775807 := by unfold maxLen at hx; exact hx
  go_enter Try.func5, Try.ntmps5
  go_wp2_with fail
  refine (zzBytes_any a0 b0 cap0 capb ss tt x _ hr hr2 hl hl2).mono ?_
  rintro e w1 ⟨⟨r, rfl⟩, hw⟩
  subst w1
  cases r
  · go_wp2
    go_ret
    exact ⟨rfl, Below.refl _ _⟩
  rcases Nat.lt_or_ge 1024 ss.length with h1 | h1
  · go_wp2
    go_ret
    exact ⟨rfl, Below.refl _ _⟩
  rcases Nat.lt_or_ge 1024 tt.length with h2 | h2
  · go_wp2
    go_ret
    exact ⟨rfl, Below.refl _ _⟩
  rcases Nat.lt_or_ge 1048576 x.size with h3 | h3
  · go_wp2
    go_ret
    exact ⟨rfl, Below.refl _ _⟩
  go_wp2_with fail
  refine (lawStrBytes_any a0 cap0 ss _ hr (by omega)).mono ?_
  rintro e w1 ⟨⟨n1, rfl⟩, hw⟩
  subst w1
  go_wp2_with fail
  refine (lawStrBytes_any b0 capb tt _ hr2 (by omega)).mono ?_
  rintro e w1 ⟨⟨n2, rfl⟩, hw⟩
  subst w1
  go_wp2_with fail
  · go_ret
    exact ⟨rfl, Below.refl _ _⟩
  refine (lawClone_any a0 cap0 ss _ hr hn (by omega)).mono ?_
  rintro e w1 ⟨a1, rfl, hra, hb1, hna⟩
  go_wp2_with fail
  refine (lawClone_any b0 capb tt _ (hr2.below hb1) hn2 (by omega)).mono ?_
  rintro e w2 ⟨b1, rfl, hrb, hb2, hnb⟩
  replace hra := hra.below hb2
  replace hb2 : Below w.heap.size w w2 := hb1.trans (hb2.mono hb1.size)
  have hn1 : a1 = none → ss = [] := fun h => hn (hna.1 h)
  have hn3 : b1 = none → tt = [] := fun h => hn2 (hnb.1 h)
  clear hna hnb hr hr2 hn hn2 hb1
  go_wp2_with fail
  refine (newPaid_any a1 _ ss _ hra hn1 (by omega) hs).mono ?_
  rintro e w3 ⟨m1, rfl, hm1, hb3⟩
  replace hra := hra.below hb3
  replace hrb := hrb.below hb3
  replace hb3 : Below w.heap.size w w3 := hb2.trans (hb3.mono hb2.size)
  clear hb2
  go_wp2_with fail
  refine (newPaid_any b1 _ tt _ (hrb.below (grew _ _)) hn3 (by omega) ht).mono ?_
  rintro e w4 ⟨m2, rfl, hm2, hb4⟩
  have cp := new_cell hb4
  have hb34 : Below w3.heap.size w3 w4 := (grew _ _).trans (hb4.mono (by simp))
  replace hra := hra.below hb34
  replace hrb := hrb.below hb34
  replace hm1 := hm1.below hb34
  replace hb4 : Below w.heap.size w w4 := hb3.trans (hb34.mono hb3.size)
  clear hb3 hb34
  generalize w3.heap.size = P at *
  have cp4 := old_cell cp (grew w4 (.cells #[.map m2] 34))
  go_wp2_with fail
  clear cp4
  refine (join_any m1 m2 ss tt _ (hm1.below (grew _ _)) (hm2.below (grew _ _)) (by omega)).mono ?_
  rintro e w5 ⟨m, rfl, hm, hb5⟩
  have cq := new_cell hb5
  have hb45 : Below w4.heap.size w4 w5 := (grew _ _).trans (hb5.mono (by simp))
  replace cp := old_cell cp hb45
  replace hra := hra.below hb45
  replace hrb := hrb.below hb45
  replace hm1 := hm1.below hb45
  replace hm2 := hm2.below hb45
  replace hb5 : Below w.heap.size w w5 := hb4.trans (hb45.mono hb4.size)
  clear hb4 hb45
  generalize w4.heap.size = Q at *
  have cp4 := old_cell cp (grew w5 (.cells #[.map m] 34))
  have cq4 := old_cell cq (grew w5 (.cells #[.map m] 34))
  go_wp2_with fail
  have hst : St w (w5.alloc (.cells #[.map m] 34)) P Q w5.heap.size m1 m2 m a1 b1 ss tt :=
    ⟨hb5.alloc hb5.size _, cp4, cq4, by go_cell, hra.below (grew _ _), hrb.below (grew _ _), hm1.below (grew _ _), hm2.below (grew _ _), hm.below (grew _ _)⟩
  generalize w5.alloc (.cells #[.map m] 34) = W at *
  generalize w5.heap.size = J at *
  clear cp4 cq4 cp cq hra hrb hm1 hm2 hm hb5
  obtain ⟨N, hN⟩ : ∃ N, d1 ss ss.length + d2 ss tt tt.length = N := ⟨_, rfl⟩
  have HN := hide hN
  clear hN
  refine (len_n m (ss ++ tt) N _ hst.h3 ((count_two ss tt).trans HN.out)).mono ?_
  rintro e w6 ⟨rfl, hb6⟩
  replace hst := hst.below hb6
  clear hb6
  go_wp2_with fail
  refine (dist_n a1 b1 _ _ _ _ ss tt _ _ hst.ra hst.rb (by omega) (by omega) (by omega) (by omega) rfl rfl HN.out).mono ?_
  rintro e w7 ⟨rfl, hd7⟩
  replace hst := hst.dr hd7
  clear hd7
  clear HN
  go_wp2_with fail
  go_loopw [10] (fun i wr => ∃ k : Nat, k ≤ ss.length ∧ i = .int .i64 k ∧ St w wr P Q J m1 m2 m a1 b1 ss tt) (fun i _ => ss.length - (intOf i).toNat)
  case atStart => exact ⟨0, Nat.zero_le _, rfl, hst⟩
  case round =>
    clear hst
    obtain ⟨k, hk, rfl, hst⟩ := hrel
    by_cases hlt : k < ss.length
    · obtain ⟨bb, off, s, hx1, hs1, hc⟩ := hst.ra.at hlt
      cases hx1
      have cj := hst.cj
      have hsr := hst.dr ⟨1, rfl⟩
      have Hc := hide (has_r m (ss ++ tt) s true wr.drew hsr.h3 (hs s (hs1 ▸ getD_mem hlt)) (by rw [inB_append, inB_mem (hs1 ▸ getD_mem hlt)]; rfl))
      have Hsr := hide hsr
      clear hs1 hst hsr
      go_wp2_with fail
      go_region_with (go_at_call 16; refine Hc.out.mono ?_; rintro e w8 ⟨rfl, hb8⟩)
      all_goals
        go_wp2
        go_roundw
        case rel => exact ⟨k + 1, by omega, by go_num, Hsr.out.below hb8⟩
        case measure => simp [intOf]; omega
    · go_wp2_with fail
      go_loopw [11] (fun i wr => ∃ k : Nat, k ≤ tt.length ∧ i = .int .i64 k ∧ St w wr P Q J m1 m2 m a1 b1 ss tt) (fun i _ => tt.length - (intOf i).toNat)
      case atStart => exact ⟨0, Nat.zero_le _, rfl, hst⟩
      case round =>
        clear hst
        obtain ⟨k2, hk2, rfl, hst⟩ := hrel
        by_cases hlt2 : k2 < tt.length
        · obtain ⟨bb, off, s, hx1, hs1, hc⟩ := hst.rb.at hlt2
          cases hx1
          have cj := hst.cj
          have hsr := hst.dr ⟨1, rfl⟩
          have Hc := hide (has_r m (ss ++ tt) s true wr.drew hsr.h3 (ht s (hs1 ▸ getD_mem hlt2)) (by rw [inB_append, inB_mem (ss := tt) (hs1 ▸ getD_mem hlt2)]; simp))
          have Hsr := hide hsr
          clear hs1 hst hsr
          go_wp2_with fail
          go_region_with (go_at_call 16; refine Hc.out.mono ?_; rintro e w8 ⟨rfl, hb8⟩)
          all_goals
            go_wp2
            go_roundw
            case rel => exact ⟨k2 + 1, by omega, by go_num, Hsr.out.below hb8⟩
            case measure => simp [intOf]; omega
        · obtain ⟨r1, e1⟩ : ∃ r, inB ss x = r := ⟨_, rfl⟩
          obtain ⟨r2, e2⟩ : ∃ r, inB tt x = r := ⟨_, rfl⟩
          obtain ⟨N1, e3⟩ : ∃ n, d1 ss ss.length = n := ⟨_, rfl⟩
          obtain ⟨N2, e4⟩ : ∃ n, d1 tt tt.length = n := ⟨_, rfl⟩
          have E12 : Hid (inB (ss ++ tt) x = (r1 || r2)) := by rw [inB_append, e1, e2]; rfl
          have E1 := hide e1
          have E2 := hide e2
          have E3 := hide e3
          have E4 := hide e4
          have E5 : Hid (d1 ss ss.length + d2 ss [] ([] : List ByteArray).length = N1) := e3
          have E6 : Hid (d1 tt tt.length + d2 tt [] ([] : List ByteArray).length = N2) := e4
          clear e1 e2 e3 e4
          have cj := hst.cj
          go_wp2_with fail
          refine (has_r m (ss ++ tt) x _ _ hst.h3 hx E12.out).mono ?_
          rintro e w8 ⟨rfl, hb8⟩
          replace hst := hst.below hb8
          clear hb8 cj
          have cp := hst.cp
          cases r1 <;> cases r2
          all_goals
            go_wp2_with (first | (go_at_call_of 17 a1; refine (lawIn_r a1 _ _ ss x _ _ hst.ra (by omega) rfl E1.out).mono ?_; rintro e w9 ⟨rfl, hw⟩; subst w9) | (go_at_call_of 17 b1; refine (lawIn_r b1 _ _ tt x _ _ hst.rb (by omega) rfl E2.out).mono ?_; rintro e w9 ⟨rfl, hw⟩; subst w9) | (go_at_call_of 14 m1; refine (len_n m1 ss N1 _ hst.h1 E3.out).mono ?_; rintro e w9 ⟨rfl, hb9⟩; replace hst := hst.below hb9; clear cp hb9) | (go_at_call_of 15 a1; refine (dist_n a1 none _ 0 _ 0 ss [] N1 _ hst.ra (Or.inl rfl) (by omega) (by simp) (by omega) (by simp) rfl rfl E5.out).mono ?_; rintro e w9 ⟨rfl, hb9⟩; replace hst := hst.dr hb9; clear hb9; have cp := hst.cp) | (go_at_call_of 16 m1; refine (has_r m1 ss x _ _ hst.h1 hx E1.out).mono ?_; rintro e w9 ⟨rfl, hb9⟩; replace hst := hst.below hb9; clear cp hb9; have cq := hst.cq) | fail)
            go_wp2_with (first | (go_at_call_of 14 m2; refine (len_n m2 tt N2 _ hst.h2 E4.out).mono ?_; rintro e w9 ⟨rfl, hb9⟩; replace hst := hst.below hb9; clear cq hb9) | (go_at_call_of 15 b1; refine (dist_n b1 none _ 0 _ 0 tt [] N2 _ hst.rb (Or.inl rfl) (by omega) (by simp) (by omega) (by simp) rfl rfl E6.out).mono ?_; rintro e w9 ⟨rfl, hb9⟩; replace hst := hst.dr hb9; clear hb9; have cq := hst.cq) | (go_at_call_of 16 m2; refine (has_r m2 tt x _ _ hst.h2 hx E2.out).mono ?_; rintro e w9 ⟨rfl, hb9⟩; replace hst := hst.below hb9; clear cq hb9) | (go_at_call_of 17 b1; refine (lawIn_r b1 _ _ tt x _ _ hst.rb (by omega) rfl E2.out).mono ?_; rintro e w9 ⟨rfl, hw⟩; subst w9) | fail)
            go_ret
            exact ⟨rfl, hst.hb⟩
end Go.Proofs.Qxb6002381a
