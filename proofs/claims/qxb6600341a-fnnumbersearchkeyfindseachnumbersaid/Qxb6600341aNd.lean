import Derived.Test.Qxb6600341aBz
import Derived.Deep.CutBlock
namespace Go.Proofs.Qxb6600341a
open Go.RowKit

/-- a sequence without its first k statements -/
def dropSeq : Nat → Code → Code
  | 0, c => c
  | k + 1, .seq _ b => dropSeq k b
  | _, c => c
set_option maxHeartbeats 40000000 in
set_option maxRecDepth 100000 in
theorem search_c (B : Nat) (aF : Option Addr) (lf cF n : Nat) (G : Nat → Int) (N : Nat → Bool) (D E : Nat → ByteArray) (w : World) (hn : n ≤ 4096)
    (hfr : aF ≠ none → lf = n) (hR : Row w aF lf fun i => .int .i64 (G i))
    (F : Nat → Int) (HF : Hid (F = fun i => fp (N i) (D i) (E i))) (b1 b2 b3 b4 b5 b6 S : Nat) (wc : World) (hne : b1 < b5 ∧ b2 < b5 ∧ S < b5 ∧ w.heap.size ≤ b5) (hge : w.heap.size ≤ b1 ∧ w.heap.size ≤ b2 ∧ w.heap.size ≤ S) (hb6 : b5 < b6)
    (hL0 : L2 w (some ⟨B, 0, none⟩) n F b1 b2 b3 b4 b5 b6 S 0 wc) (c7 c8 c10 c11 c12 c13 c14 c15 c16 c17 c18 c19 c20 c21 c22 c23 c24 c25 c26 c27 c28 c29 c30 c31 c32 c33 c34 c35 c36 c37 c38 c39 c40 c41 c42 c43 c44 c45 c46 c47 c48 c49 c50 c51 c52 c53 c54 c55 c56 c57 c58 c59 c60 c61 c62 c63 c64 c65 c66 c67 c68 c69 c70 c71 c72 c73 c74 c75 c76 c77 c78 c79 c80 c81 c82 c83 c84 c85 c86 c87 c88 c89 c90 c91 c92 c93 c94 c95 c96 c97 c98 c99 c100 c101 c102 c103 c104 c105 c106 c107 c108 c109 c110 c111 c112 c113 c114 c115 c116 c117 c118 c119 c120 c121 c122 c123 c124 c125 c126 c127 c128 c129 c130 c131 c132 c133 c134 c135 c136 c137 c138 c139 c140 c141 c142 c143 c144 c145 c146 c147 c148 c149 c150 c151 c152 c153 c154 c155 c156 c157 c158 c159 c160 c161 c162 c163 c164 c165 c166 c167 c168 c169 c170 c171 c172 c173 c174 c175 c176 c177 c178 : Value) :
    Code.wp Try.prog (dropSeq 6 (Try.f19.body.getD .skip)) (bodyPost Try.prog Try.f19 fun e w' => Search w n (fun i => fp (N i) (D i) (E i)) e w') ⟨#[.slice (some ⟨B, 0, none⟩) n n, .slice aF lf cF, undef, undef, .pointer none, .pointer (some ⟨S, 0, none⟩), .slice (some ⟨b5, 0, none⟩) n n, c7, c8, .slice (some ⟨b6, 0, none⟩) n n, c10, c11, c12, c13, c14, c15, c16, c17, c18, c19, c20, c21, c22, c23, c24, c25, c26, c27, c28, c29, c30, c31, c32, c33, c34, c35, c36, c37, c38, c39, c40, c41, c42, c43, c44, c45, c46, c47, c48, c49, c50, c51, c52, c53, c54, c55, c56, c57, c58, c59, c60, c61, c62, c63, c64, c65, c66, c67, c68, c69, c70, c71, c72, c73, c74, c75, c76, c77, c78, c79, c80, c81, c82, c83, c84, c85, c86, c87, c88, c89, c90, c91, c92, c93, c94, c95, c96, c97, c98, c99, c100, c101, c102, c103, c104, c105, c106, c107, c108, c109, c110, c111, c112, c113, c114, c115, c116, c117, c118, c119, c120, c121, c122, c123, c124, c125, c126, c127, c128, c129, c130, c131, c132, c133, c134, c135, c136, c137, c138, c139, c140, c141, c142, c143, c144, c145, c146, c147, c148, c149, c150, c151, c152, c153, c154, c155, c156, c157, c158, c159, c160, c161, c162, c163, c164, c165, c166, c167, c168, c169, c170, c171, c172, c173, c174, c175, c176, c177, c178], []⟩ wc := by
  conv => arg 2; whnf
  have HFR := hide hfr
  have HRR := hide hR
  clear hfr hR
  have HL0 := hide hL0
  clear hL0
  go_wp2
  go_loopw [81] (fun vi wr => ∃ q : Nat, vi = .int .i64 q ∧ q ≤ n ∧ L2 w (some ⟨B, 0, none⟩) n F b1 b2 b3 b4 b5 b6 S q wr) (fun vi _ => n - (intOf vi).toNat)
  case atStart => exact ⟨0, rfl, Nat.zero_le _, HL0.out⟩
  case round =>
    clear HL0
    obtain ⟨q, rfl, hq, hL⟩ := hrel
    by_cases hlt2 : q < n
    · have f5 := hL.marks.cell hlt2
      have f6 := hL.nums.cell hlt2
      have z6 := hL.nums.frozen q
      have hsp := hide (sorted_split (F := F) hn hlt2)
      generalize (sorted n F).getD q 0 = X at f5 hsp
      go_wp2
      go_roundw
      case rel =>
        refine ⟨q + 1, by go_num, by omega, ⟨hL.fps.other (by omega) _ _, hL.box.other (by omega) _ _, hL.marks.other (by omega) _ _, (hL.nums.set q _).congr (fun i hi => ?_), hL.below.setCell (by show _ ≤ b6; omega) _⟩⟩
        unfold upd
        obtain ⟨hs1, hs2⟩ := hsp.out
        by_cases h : i = q
        · subst h
          rw [if_pos rfl, if_pos (Nat.lt_succ_self _)]
          exact val_int (by omega)
        · rw [if_neg h]
          exact val_int (by simp [show (i < q + 1) = (i < q) by simp; omega])
      case measure => simp [intOf]; omega
    · obtain rfl : n = q := by omega
      have hfr := HFR.out
      have hR := HRR.out
      clear HFR HRR
      clear hlt2 hq
      have h30 : L3 w (some ⟨B, 0, none⟩) n F b1 b2 b3 b4 b6 S 0 [] none 0 wr :=
        ⟨hL.fps, hL.nums.congr (fun i hi => by simp [hi]), hL.box, World.ownsRow_nil _ _ _ _, fun g h => (by cases h), hL.below, Keyed.nil _ _⟩
      have H30 := hide h30
      have hlt6 : b1 < b6 ∧ S < b6 := by omega
      clear h30 hL
      go_wp2
      go_loopw [12] (fun vi wr => ∃ (at' : Nat) (ks : List Key) (ao : Option Addr) (ck : Nat), vi = .int .i64 at' ∧ L3 w (some ⟨B, 0, none⟩) n F b1 b2 b3 b4 b6 S at' ks ao ck wr) (fun vi _ => n - (intOf vi).toNat)
      case atStart => exact ⟨0, [], none, 0, rfl, H30.out⟩
      case round =>
        clear H30
        obtain ⟨at', ks, ao, ck, rfl, hL⟩ := hrel
        have hle := hL.keyed.le
        by_cases hlt3 : at' < n
        · obtain ⟨P, hP⟩ : ∃ P, P = nat n F at' := ⟨_, rfl⟩
          have hPn : P < n := by rw [hP]; exact nat_lt hn hlt3
          have s1 := hL.box.cell (k := 1) (by omega)
          have f6 := hL.nums.cell hlt3
          have f1 := hL.fps.cell hPn
          simp only [cellsS, List.getD_cons_succ, List.getD_cons_zero] at s1
          rw [← hP] at f6
          have hM : mk (F P) = mark n F at' := by rw [hP]; rfl
          have HM := hide hM
          clear hP hM
          go_wp2
          go_quiet ((go_at_call 26; exact Calls.quiet_of_same (marked_any _ _)))
          generalize mk (F P) = M at *
          go_upto_block 6 with fail
          go_cut [14] from 93 to 177 (fun v wx => ∃ tq : Nat, v = .int .i64 tq ∧ at' < tq ∧ tq ≤ n ∧ (∀ j, at' ≤ j → j < tq → mark n F j = mark n F at') ∧ (tq < n → mark n F tq ≠ mark n F at') ∧ Dr wr wx)
          case first =>
            clear f6 f1 s1
            go_wp2_with fail
            go_loopw [14] (fun v wi => ∃ tq : Nat, v = .int .i64 tq ∧ at' < tq ∧ tq ≤ n ∧ (∀ j, at' ≤ j → j < tq → mark n F j = mark n F at') ∧ Dr wr wi) (fun v _ => n - (intOf v).toNat)
            case atStart => exact ⟨at' + 1, by go_num, by omega, by omega, fun j h1 h2 => by rw [show j = at' by omega], ⟨nq, rfl⟩⟩
            case round =>
              obtain ⟨tq, rfl, ht1, ht2, heq, hdr⟩ := hrel
              have HE := hide heq
              clear heq
              have hL' := hL.dr hdr
              by_cases htn : tq < n
              · obtain ⟨R, hR'⟩ : ∃ R, R = nat n F tq := ⟨_, rfl⟩
                have hRn : R < n := by rw [hR']; exact nat_lt hn htn
                have s1 := hL'.box.cell (k := 1) (by omega)
                have f6 := hL'.nums.cell htn
                have f1 := hL'.fps.cell hRn
                simp only [cellsS, List.getD_cons_succ, List.getD_cons_zero] at s1
                rw [← hR'] at f6
                have hMq : mk (F R) = mark n F tq := by rw [hR']; rfl
                have HMq := hide hMq
                clear hR' hMq
                go_wp2
                go_quiet ((go_at_call 26; exact Calls.quiet_of_same (marked_any _ _)))
                go_wp2
                · have hz : mk (F R) = M := by simpa using ‹(mk (F R) == M) = true›
                  go_roundw
                  case rel => exact ⟨tq + 1, by go_num, by omega, by omega, fun j h1 h2 => by
                    by_cases hj : j < tq
                    · exact HE.out j h1 hj
                    · rw [show j = tq by omega, ← HMq.out, hz, HM.out], hdr.on _⟩
                  case measure => simp [intOf]; omega
                · have hz : mk (F R) ≠ M := by simpa using ‹(mk (F R) == M) = false›
                  go_meet
                  exact ⟨tq, rfl, ht1, ht2, HE.out, fun _ => by rw [← HMq.out, ← HM.out]; exact hz, hdr.on _⟩
              · go_wp2
                go_quiet ((go_at_call 26; exact Calls.quiet_of_same (marked_any _ _)))
                go_wp2
                go_meet
                exact ⟨tq, rfl, ht1, ht2, HE.out, fun h => absurd h htn, hdr.on _⟩
          case rest =>
            obtain ⟨tq, rfl, ht1, ht2, heq, hend, hdr⟩ := hcut
            have hL2 := hL.dr hdr
            clear s1 f6 f1 hL hdr
            have HE := hide heq
            have HN := hide hend
            clear heq hend
            have hnq := neq_nil
            have hz : ((tq : Int) - (at' : Int)) = ((tq - at' : Nat) : Int) := by omega
            have HZ := hide hz
            clear hz
            go_upto_if 142 with fail
            have hfar := hL2.far
            have hKey := keyc_new wc b6 at' tq M 0 _ HZ.out
            have hL5 := hL2.alloc (.cells #[.int .u32 M, .slice (some ⟨b6, at', none⟩) (tq - at') (tq - at'), .int .i64 ((tq : Int) - (at' : Int)), .int .i64 0] 57 (0, 0))
            generalize wc.heap.size = KB at *
            go_cut [] from 93 to 177 (fun wx => ∃ f : Int, L3 w (some ⟨B, 0, none⟩) n F b1 b2 b3 b4 b6 S at' ks ao ck wx ∧ Blk wx KB 57 4 (keyc b6 ⟨M, at', tq, f⟩))
            case first =>
              cases aF with
              | none =>
                clear hnq
                go_wp2
                go_meet
                exact ⟨0, hL5, hKey⟩
              | some a =>
                have hnf := (hfr (by simp)).symm
                subst hnf
                clear hfr hnq
                have HK := hide hKey
                have HL5 := hide hL5
                clear hKey hL5 hL2
                generalize wc.alloc (.cells #[.int .u32 M, .slice (some ⟨b6, at', none⟩) (tq - at') (tq - at'), .int .i64 ((tq : Int) - (at' : Int)), .int .i64 0] 57 (0, 0)) = wk at *
                have hRk := hR.below HL5.out.below
                obtain ⟨P2, hP2⟩ : ∃ P2, P2 = nat n F at' := ⟨_, rfl⟩
                have hP2n : P2 < n := by rw [hP2]; exact nat_lt hn hlt3
                have f6 := HL5.out.nums.cell hlt3
                rw [← hP2] at f6
                clear hP2
                obtain ⟨fb, fo, hfa, fc⟩ := hRk.get hP2n
                cases hfa
                have k3 := HK.out.cell (k := 3) (by omega)
                have z3 := HK.out.frozen 3
                have k1 := HK.out.cell (k := 1) (by omega)
                simp only [keyc, keyCells1, List.getD_cons_succ, List.getD_cons_zero] at k3 k1
                obtain ⟨LN, hLN⟩ : ∃ LN, LN = tq - at' := ⟨_, rfl⟩
                rw [← hLN] at k1
                have hLt : at' + LN ≤ n := by omega
                clear hLN
                go_wp2
                have hLs := hide (HL5.out.keyset hfar (.int .i64 (G P2)))
                have hKs := hide ((HK.out.set 3 (.int .i64 (G P2))).congr (keyc_fr b6 at' tq M 0 (G P2)))
                clear f6 fc z3 k3 k1 HK HL5 hRk
                go_loopw [154] (fun v wl => ∃ (t : Nat) (f : Int), v = .int .i64 t ∧ t ≤ LN ∧ L3 w (some ⟨B, 0, none⟩) n F b1 b2 b3 b4 b6 S at' ks ao ck wl ∧ Blk wl KB 57 4 (keyc b6 ⟨M, at', tq, f⟩)) (fun v _ => LN - (intOf v).toNat)
                case atStart => exact ⟨0, G P2, rfl, Nat.zero_le _, hLs.out, hKs.out⟩
                case round =>
                  clear hLs hKs
                  obtain ⟨t, f, rfl, htL, hLl, hKl⟩ := hrel
                  by_cases htl : t < LN
                  · obtain ⟨R, hR2⟩ : ∃ R, R = nat n F (at' + t) := ⟨_, rfl⟩
                    have hRn : R < n := by rw [hR2]; exact nat_lt hn (by omega)
                    have f6 := hLl.nums.cell (k := at' + t) (by omega)
                    rw [← hR2] at f6
                    clear hR2
                    have hRl := hR.below hLl.below
                    obtain ⟨fb', fo', hfa, fc⟩ := hRl.get hRn
                    cases hfa
                    have k3 := hKl.cell (k := 3) (by omega)
                    have z3 := hKl.frozen 3
                    simp only [keyc, keyCells1, List.getD_cons_succ, List.getD_cons_zero] at k3
                    go_upto_region 28 with fail
                    go_region
                    all_goals go_wp2
                    all_goals go_roundw
                    case rel => exact ⟨t + 1, _, by go_num, by omega, (hLl.keyset hfar _).drew, ((hKl.set 3 _).congr (keyc_fr b6 at' tq M f _)).drew⟩
                    case measure => simp [intOf]; omega
                  · go_wp2
                    go_meet
                    exact ⟨f, hLl, hKl⟩
            case rest =>
              obtain ⟨f, hL3, hKey⟩ := hcut
              clear hL2 hL5
              rename_i hKey0 _
              have HKS := hide (hL3.keyed.step hn ht1 ht2 HE.out HN.out f)
              have hfew := hL3.keyed.few
              have lS := hL3.box.lt
              obtain ⟨i57, hi57, hz570, hz571, hz572⟩ := info_parts Try.info57
              have s6 := hL3.box.cell (k := 6) (by omega)
              have z6 := hL3.box.frozen 6
              have k0 := hKey.cell (k := 0) (by omega)
              have k1 := hKey.cell (k := 1) (by omega)
              have k2 := hKey.cell (k := 2) (by omega)
              have k3 := hKey.cell (k := 3) (by omega)
              simp only [cellsS, List.getD_cons_succ, List.getD_cons_zero] at s6
              simp only [keyc, keyCells1, List.getD_cons_succ, List.getD_cons_zero] at k0 k1 k2 k3
              go_upto_region 30 with fail
              have HL3 := hide (hL3.drew.alloc (.cells #[.int .u32 M, .slice (some ⟨b6, at', none⟩) (tq - at') (tq - at'), .int .i64 ((tq - at' : Nat) : Int), .int .i64 f] 57 (0, 0)))
              have HNW := hide (keyc_news _ b6 ⟨M, at', tq, f⟩ _ (keyc_new wc.drew b6 at' tq M f _ rfl))
              clear hKey
              go_region_law (refine step_append_own rfl (.tmp 171) (.tmp 173) 52 rfl w.heap.size 57 i57 _ 4 48 Try.underlying52 hi57 hz570 hz571 hz572 rfl (by decide) (.slice ao ks.length ck) ks.length (keyCells b6 ks) (by simp [Act.eval]) HL3.out.own ⟨wc.heap.size, 0, none⟩ 1 1 (keyCells1 b6 ⟨M, at', tq, f⟩) (by simp [Act.eval]) rfl HNW.out (keyc_one b6 _) (by unfold maxLen; omega) (by omega) HL3.out.below.size ?_; intro v' w' hown' hgr'; obtain ⟨ao', ck', rfl, hao'⟩ := own_form hown'; have sB := HL3.out.boxOn hgr'; have s6' := sB.cell (k := 6) (by omega); have z6' := sB.frozen 6)
              all_goals go_wp2
              all_goals go_roundw
              all_goals first
                | (exact ⟨tq, ks ++ [⟨M, at', tq, f⟩], ao', ck', rfl, hL3.drew.push2 hge.2.2 (by rw [HM.out]; exact HKS.out.1) hown' hgr'⟩)
                | (simp [intOf]; omega)
        · obtain rfl : n = at' := by omega
          go_wp2
          go_ret
          rw [← HF.out]
          exact ⟨_, _, _, _, _, _, _, _, _, rfl, hL.found (by omega)⟩
end Go.Proofs.Qxb6600341a
