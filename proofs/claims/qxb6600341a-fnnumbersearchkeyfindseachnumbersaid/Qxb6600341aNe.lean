import Derived.Test.Qxb6600341aNd
import Derived.Test.Qxb6600341aSort
namespace Go.Proofs.Qxb6600341a
open Go.RowKit

set_option maxHeartbeats 40000000 in
set_option maxRecDepth 100000 in
theorem search_b (B : Nat) (aF : Option Addr) (lf cF n : Nat) (G : Nat → Int) (N : Nat → Bool) (D E : Nat → ByteArray) (w : World) (hn : n ≤ 4096) (hW : Worths w 0 B n N D E)
    (hD : ∀ i, i < n → (D i).size ≤ 1048576) (hE : ∀ i, i < n → (E i).size ≤ 1048576) (hBw : B < w.heap.size)
    (hfr : aF ≠ none → lf = n) (hR : Row w aF lf fun i => .int .i64 (G i))
    (b1 b2 b3 b4 S : Nat) (wc : World) (hB : Boxed w (some ⟨B, 0, none⟩) n b1 b2 b3 b4 S wc) (c6 c7 c8 c9 c10 c11 c12 c13 c14 c15 c16 c17 c18 c19 c20 c21 c22 c23 c24 c25 c26 c27 c28 c29 c30 c31 c32 c33 c34 c35 c36 c37 c38 c39 c40 c41 c42 c43 c44 c45 c46 c47 c48 c49 c50 c51 c52 c53 c54 c55 c56 c57 c58 c59 c60 c61 c62 c63 c64 c65 c66 c67 c68 c69 c70 c71 c72 c73 c74 c75 c76 c77 c78 c79 c80 c81 c82 c83 c84 c85 c86 c87 c88 c89 c90 c91 c92 c93 c94 c95 c96 c97 c98 c99 c100 c101 c102 c103 c104 c105 c106 c107 c108 c109 c110 c111 c112 c113 c114 c115 c116 c117 c118 c119 c120 c121 c122 c123 c124 c125 c126 c127 c128 c129 c130 c131 c132 c133 c134 c135 c136 c137 c138 c139 c140 c141 c142 c143 c144 c145 c146 c147 c148 c149 c150 c151 c152 c153 c154 c155 c156 c157 c158 c159 c160 c161 c162 c163 c164 c165 c166 c167 c168 c169 c170 c171 c172 c173 c174 c175 c176 c177 c178 : Value) :
    Code.wp Try.prog (dropSeq 2 (Try.f19.body.getD .skip)) (bodyPost Try.prog Try.f19 fun e w' => Search w n (fun i => fp (N i) (D i) (E i)) e w') ⟨#[.slice (some ⟨B, 0, none⟩) n n, .slice aF lf cF, undef, undef, .pointer none, .pointer (some ⟨S, 0, none⟩), c6, c7, c8, c9, c10, c11, c12, c13, c14, c15, c16, c17, c18, c19, c20, c21, c22, c23, c24, c25, c26, c27, c28, c29, c30, c31, c32, c33, c34, c35, c36, c37, c38, c39, c40, c41, c42, c43, c44, c45, c46, c47, c48, c49, c50, c51, c52, c53, c54, c55, c56, c57, c58, c59, c60, c61, c62, c63, c64, c65, c66, c67, c68, c69, c70, c71, c72, c73, c74, c75, c76, c77, c78, c79, c80, c81, c82, c83, c84, c85, c86, c87, c88, c89, c90, c91, c92, c93, c94, c95, c96, c97, c98, c99, c100, c101, c102, c103, c104, c105, c106, c107, c108, c109, c110, c111, c112, c113, c114, c115, c116, c117, c118, c119, c120, c121, c122, c123, c124, c125, c126, c127, c128, c129, c130, c131, c132, c133, c134, c135, c136, c137, c138, c139, c140, c141, c142, c143, c144, c145, c146, c147, c148, c149, c150, c151, c152, c153, c154, c155, c156, c157, c158, c159, c160, c161, c162, c163, c164, c165, c166, c167, c168, c169, c170, c171, c172, c173, c174, c175, c176, c177, c178], []⟩ wc := by
  conv => arg 2; whnf
  obtain ⟨i66, hi66, hz660, hz661, hz662⟩ := info_parts Try.info66
  have m53 := fun w => make_run 53 66 n (.int .u64 0) i66 w Try.underlying53 hi66 hz660 hz661 rfl (by omega) (by omega)
  obtain ⟨i3, hi3, hz30, hz31, hz32⟩ := info_parts Try.info3
  have HFR := hide hfr
  have HRR := hide hR
  have m31 := fun w => make_run 31 3 n (.int .i64 0) i3 w Try.underlying31 hi3 hz30 hz31 rfl (by omega) (by omega)
  clear hi66 hz660 hz661 hz662 hi3 hz30 hz31 hz32 hfr hR
  have hd : w.drew.heap.size = w.heap.size := rfl
  obtain ⟨F, hF⟩ : ∃ F : Nat → Int, F = fun i => fp (N i) (D i) (E i) := ⟨_, rfl⟩
  have HF := hide hF
  clear hF
  go_wp2
  obtain ⟨b5, hb5⟩ : ∃ b5, b5 = wc.heap.size := ⟨_, rfl⟩
  rw [← hb5]
  have hne : b1 < b5 ∧ b2 < b5 ∧ S < b5 ∧ w.heap.size ≤ b5 := by
    have := hB.fps.lt; have := hB.first.lt; have := hB.box.lt; have := hB.ge; omega
  have hne2 := hB.ne
  have hge := hB.ge
  have hL0 : L1 w (some ⟨B, 0, none⟩) n F b1 b2 b3 b4 b5 S 0 (zeros wc 66 n (.int .u64 0)) :=
    ⟨(hB.fps.zeros _ _ _).congr (fun i _ => by simp), ⟨fun _ => 0, hB.first.zeros _ _ _⟩, hB.box.zeros _ _ _, by rw [hb5]; exact (blk_zeros _ _ _ _).congr (fun i _ => by simp), below_zeros hB.below (by omega) _ _ _⟩
  have HL0 := hide hL0
  clear hL0 hB hb5
  go_loopw [38] (fun vi wr => ∃ k : Nat, vi = .int .i64 k ∧ k ≤ n ∧ L1 w (some ⟨B, 0, none⟩) n F b1 b2 b3 b4 b5 S k wr) (fun vi _ => n - (intOf vi).toNat)
  case atStart => exact ⟨0, rfl, Nat.zero_le _, HL0.out⟩
  case round =>
    clear HL0
    obtain ⟨k, rfl, hk, hL⟩ := hrel
    by_cases hlt : k < n
    · obtain ⟨g2, hg2⟩ := hL.first
      obtain ⟨_, hcs⟩ := hW
      obtain ⟨c0, c1, c2⟩ := hcs k hlt
      rw [← hL.below.cell (p := ⟨B, k * 3, none⟩) hBw] at c0
      rw [← hL.below.cell (p := ⟨B, k * 3 + 1, none⟩) hBw] at c1
      rw [← hL.below.cell (p := ⟨B, k * 3 + 2, none⟩) hBw] at c2
      have s1 := hL.box.cell (k := 1) (by omega)
      have s2 := hL.box.cell (k := 2) (by omega)
      have f1 := hL.fps.cell hlt
      have f2 := hg2.cell hlt
      have f5 := hL.marks.cell hlt
      have z1 := hL.fps.frozen k
      have z2 := hg2.frozen k
      have z5 := hL.marks.frozen k
      simp only [cellsS, List.getD_cons_succ, List.getD_cons_zero] at s1 s2
      have l1 := hL.fps.lt
      have l2 := hg2.lt
      have lS := hL.box.lt
      go_upto_region 6 with fail
      clear c0 c1 c2 hcs
      go_cut [] from 43 to 73 (fun wx => M1 w (some ⟨B, 0, none⟩) n F b1 b2 b3 b4 b5 S k (fp (N k) (D k) (E k)) wx)
      case first =>
        go_region_with (go_at_call 25; refine (fpd_any (N k) (D k) (E k) _ (hD k hlt) (hE k hlt)).mono ?_; rintro e w' ⟨rfl, o, rfl⟩)
        all_goals
          have hz := hL.below.size
          go_wp2_with fail
          go_meet
          refine ⟨?_, ⟨fun i => if i = k then -1 else g2 i, ?_⟩, ?_, ?_, ?_⟩
          · exact ((((hL.fps.set k _).other hne2.1.symm _ _).alloc _).alloc _).drew
          · exact (((((hg2.other hne2.1 _ _).set k _).alloc _).alloc _).drew).congr (fun i _ => by unfold upd; by_cases h : i = k <;> simp [h])
          · exact ((((hL.box.other hne2.2.1 _ _).other hne2.2.2 _ _).alloc _).alloc _).drew
          · exact ((((hL.marks.other (by omega) _ _).other (by omega) _ _).alloc _).alloc _).drew
          · exact ((((hL.below.setCell hge.1 _).setCell hge.2.1 _).alloc (by simp; omega) _).alloc (by simp; omega) _).drew
      case rest =>
        obtain ⟨q1, q2, qS, q5, qB⟩ := hcut
        clear s1 s2 f1 f2 f5 z1 z2 z5 l1 l2 lS hL hg2
        rename_i wc2
        have hx := congrFun HF.out k
        have HX := hide hx
        clear hx
        have s1 := qS.cell (k := 1) (by omega)
        have f1 := q1.cell hlt
        have f5 := q5.cell hlt
        have z5 := q5.frozen k
        simp only [cellsS, List.getD_cons_succ, List.getD_cons_zero] at s1
        simp only [upd, if_true] at f1
        go_wp2_with (go_at_call 26; refine (marked_any _ _).mono ?_; rintro e w' ⟨rfl, rfl⟩)
        go_roundw
        case rel =>
          refine ⟨k + 1, by go_num, by omega, ⟨?_, ?_, ?_, ?_, ?_⟩⟩
          · exact (q1.other (by omega) _ _).congr (fun i hi => by unfold upd; by_cases h : i = k; · subst h; simp [HX.out]
                                                                  · simp [h, show (i < k + 1) = (i < k) by simp; omega])
          · obtain ⟨g, hg⟩ := q2
            exact ⟨g, hg.other (by omega) _ _⟩
          · exact qS.other (by omega) _ _
          · refine (q5.set k _).congr (fun i hi => ?_)
            unfold upd
            by_cases h : i = k
            · subst h
              rw [if_pos rfl, if_pos (Nat.lt_succ_self _)]
              refine val_int ?_
              rw [HX.out]
              exact pack _ _ (by omega)
            · rw [if_neg h]
              refine val_int ?_
              simp [show (i < k + 1) = (i < k) by simp; omega]
          · exact qB.setCell (by exact hne.2.2.2) _
        case measure => simp [intOf]; omega
    · obtain rfl : n = k := by omega
      have l5 := hL.marks.lt
      have Hs : Hid (Calls Try.prog 27 #[.slice (some ⟨b5, 0, none⟩) n n] wr fun e w' => e = .returned (.tuple #[]) ∧ ∃ N os, w' = Sort.grow (Sort.putRow (Value.int .u64) (Sort.ahead wr N) b5 0 (sorted n F).toArray) os) := by
        have h := sort_any b5 0 n (packed n F) wr hL.holds l5 (by rw [packed_length]; omega)
        rw [packed_length] at h
        exact h
      go_upto_region 10 with (go_at_call 27; refine Hs.out.mono ?_; rintro e w' ⟨rfl, N', os, rfl⟩)
      have hL2 := hide (hL.next hne N' os)
      have hgr := grownBy_sortedU (w := wr) (g := b5) (n := N') (os := os) (sorted n F).toArray
      have hsz := hgr.size
      generalize Sort.grow (Sort.putRow (Value.int .u64) (Sort.ahead wr N') b5 0 (sorted n F).toArray) os = ws at *
      go_cut [9] from 74 (fun v9 wx => ∃ b6, v9 = .slice (some ⟨b6, 0, none⟩) n n ∧ b5 < b6 ∧ L2 w (some ⟨B, 0, none⟩) n F b1 b2 b3 b4 b5 b6 S 0 wx)
      case first =>
        clear Hs hL
        go_wp2
        go_meet
        exact ⟨_, rfl, by omega, hL2.out⟩
      case rest =>
        obtain ⟨b6, rfl, hb6, hL0⟩ := hcut
        rename_i hk
        refine hk _ _ ?_
        exact search_c B aF lf cF n G N D E w hn HFR.out HRR.out F HF b1 b2 b3 b4 b5 b6 S _ hne hge hb6 hL0 _ _ _ _ _ _ _ _ _ _ _ _ _ _ _ _ _ _ _ _ _ _ _ _ _ _ _ _ _ _ _ _ _ _ _ _ _ _ _ _ _ _ _ _ _ _ _ _ _ _ _ _ _ _ _ _ _ _ _ _ _ _ _ _ _ _ _ _ _ _ _ _ _ _ _ _ _ _ _ _ _ _ _ _ _ _ _ _ _ _ _ _ _ _ _ _ _ _ _ _ _ _ _ _ _ _ _ _ _ _ _ _ _ _ _ _ _ _ _ _ _ _ _ _ _ _ _ _ _ _ _ _ _ _ _ _ _ _ _ _ _ _ _ _ _ _ _ _ _ _ _ _ _ _ _ _ _ _ _ _ _ _ _ _ _ _ _ _ _ _ _
end Go.Proofs.Qxb6600341a
