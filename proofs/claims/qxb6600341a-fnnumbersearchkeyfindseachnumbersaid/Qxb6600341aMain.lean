import Derived.Test.Qxb6600341aLook
import Derived.Test.Qxb6600341aTen
import Derived.Test.Qxb6600341aZz
import Derived.Test.Qxb6600341aPl
namespace Go.Proofs.Qxb6600341a
open Go.RowKit

theorem GotV.form {n : Nat} {F : Nat → Int} {b6 : Nat} {m : Int} {vf vk vu : Value} {w : World} (hn : n ≤ 4096) (h : GotV n F b6 m vf vk vu) (hnums : ∀ i, i < n → w.cell? ⟨b6, i, none⟩ = some (.int .i64 (nat n F i : Int))) :
    ∃ (ao : Option Addr) (L : Nat), vu = .slice ao L L ∧ L = (having n F m).length ∧ vf = .bool (decide (0 < L)) ∧ vk = .int .u32 (if 0 < L then m else 0) ∧
      ∀ a, a < n → mk (F a) = m → cnt F m a < L ∧ ∃ B o, ao = some ⟨B, o, none⟩ ∧ w.cell? ⟨B, o + cnt F m a, none⟩ = some (.int .i64 (a : Int)) := by
  rcases h with ⟨lo, hi, hG, rfl, rfl, rfl⟩ | ⟨h0, rfl, rfl, rfl⟩
  · have hlt := hG.lt
    have hle := hG.le
    refine ⟨_, _, rfl, (hG.length hn).symm, ?_, ?_, fun a ha hm => ?_⟩
    · simp; omega
    · rw [if_pos (by omega)]
    · obtain ⟨h1, h2⟩ := hG.at hn ha hm
      refine ⟨h1, _, _, rfl, ?_⟩
      rw [hnums _ (by omega), h2]
  · refine ⟨none, 0, rfl, by rw [h0]; rfl, by simp, by simp, fun a ha hm => ?_⟩
    have := having_mem ha hm
    rw [h0] at this
    cases this
theorem GotV.group {n : Nat} {F : Nat → Int} {b6 : Nat} {m : Int} {vf vk vu : Value} (h : GotV n F b6 m vf vk vu) {i : Nat} (hi : i < n) (hm : mk (F i) = m) :
    ∃ lo hi, Group n F m lo hi ∧ vf = .bool true ∧ vk = .int .u32 m ∧ vu = .slice (some ⟨b6, lo, none⟩) (hi - lo) (hi - lo) := by
  rcases h with h | ⟨h0, _⟩
  · exact h
  · have := having_mem hi hm
    rw [h0] at this
    cases this

structure Ml (w5 : World) (F : Nat → Int) (lp : Int) (n mb k : Nat) (wr : World) : Prop where
  make ::
  row : Blk wr mb 32 (n + 1) fun i => .int .u32 (if i < k then bits .xor .u32 (F i) lp else 0)
  below : Below w5.heap.size w5 wr

set_option maxHeartbeats 8000000 in
set_option maxRecDepth 100000 in
theorem main_any (aN aD aE aF : Option Addr) (cN cD cE cF ln ld le lf : Nat) (N : Nat → Bool) (D E : Nat → ByteArray) (G : Nat → Int) (p : Int) (w : World)
    (hN : Row w aN ln fun i => .bool (N i)) (hD : Row w aD ld fun i => .string (D i)) (hE : Row w aE le fun i => .string (E i)) (hF : Row w aF lf fun i => .int .i64 (G i))
    (nN : aN = none → ln = 0) (nD : aD = none → ld = 0) (nE : aE = none → le = 0) (nF : aF = none → lf = 0) (hp0 : 0 ≤ p) (hp1 : p < 4294967296) :
    Calls Try.prog 5 #[.slice aN ln cN, .slice aD ld cD, .slice aE le cE, .slice aF lf cF, .int .u32 p] w fun e w' => e = .returned (.bool true) ∧ Below w.heap.size w w' := by
  have HN := hide hN
  have HD := hide hD
  have HE := hide hE
  have HF := hide hF
  have HnN := hide nN
  have HnD := hide nD
  have HnE := hide nE
  have HnF := hide nF
  clear hN hD hE hF nN nD nE nF
  have hnq := neq_nil
  go_enter Try.func5, Try.ntmps5
  go_wp2_with fail
  refine (zzBytes_any aN aD aE aF cN cD cE cF ln ld le lf D E p w HD.out HE.out).mono ?_
  rintro e w1 ⟨⟨r, rfl, hS⟩, hw1⟩
  subst w1
  have HS := hide hS
  clear hS
  cases r
  · go_wp2
    go_ret
    exact ⟨rfl, Below.refl _ _⟩
  rcases Nat.lt_or_ge 65536 ln with h1 | h1
  · go_wp2
    go_ret
    exact ⟨rfl, Below.refl _ _⟩
  rcases Nat.lt_or_ge 65536 ld with h2 | h2
  · go_wp2
    go_ret
    exact ⟨rfl, Below.refl _ _⟩
  rcases Nat.lt_or_ge 65536 le with h3 | h3
  · go_wp2
    go_ret
    exact ⟨rfl, Below.refl _ _⟩
  rcases Nat.lt_or_ge 65536 lf with h4 | h4
  · go_wp2
    go_ret
    exact ⟨rfl, Below.refl _ _⟩
  go_wp2_with fail
  refine (zzSearch_any aN aD aE aF cN cD cE cF ln ld le lf D E w HD.out HE.out h2 h3).mono ?_
  rintro e w1 ⟨⟨r, rfl⟩, hw1⟩
  subst w1
  by_cases h5 : 1048576 < r
  · go_wp2
    go_ret
    exact ⟨rfl, Below.refl _ _⟩
  rcases Nat.lt_or_ge 4096 ld with h6 | h6
  · go_wp2
    go_ret
    exact ⟨rfl, Below.refl _ _⟩
  by_cases h7 : ln = ld
  rotate_left
  · have h7' : ((ln : Int) != (ld : Int)) = true := by simp; omega
    go_wp2
    go_ret
    exact ⟨rfl, Below.refl _ _⟩
  subst h7
  by_cases h8 : le = ln
  rotate_left
  · have h8' : ((le : Int) != (ln : Int)) = true := by simp; omega
    go_wp2
    go_ret
    exact ⟨rfl, Below.refl _ _⟩
  subst h8
  obtain ⟨n, hn⟩ : ∃ n, n = le := ⟨_, rfl⟩
  subst hn
  by_cases h9 : aF ≠ none ∧ lf ≠ n
  · obtain ⟨h9, h10⟩ := h9
    have h10' : ((lf : Int) != (n : Int)) = true := by simp; omega
    have h9' : aF.isNone = false := by cases aF <;> simp_all
    go_wp2
    go_ret
    exact ⟨rfl, Below.refl _ _⟩
  have hfr : aF ≠ none → lf = n := fun h => Decidable.byContradiction fun h' => h9 ⟨h, h'⟩
  have HFR := hide hfr
  clear hfr
  go_upto_region 12 with fail
  go_cut [89] from 82 (fun v wx => v = .bool false ∧ wx = w)
  case first =>
    as_aux_lemma =>
      have hfr := HFR.out
      clear HFR h9
      cases aF with
      | none =>
        clear hfr
        go_wp2
        go_meet
        exact ⟨rfl, rfl⟩
      | some a =>
        have hb : ((lf : Int) != (n : Int)) = false := by have := hfr (by simp); subst this; simp
        clear hfr
        go_wp2
        go_meet
        exact ⟨rfl, rfl⟩
  case rest =>
    obtain ⟨rfl, rfl⟩ := hcut
    clear hnq h9
    have hSz := HS.out trivial
    have HSz := hide hSz
    clear hSz HS
    go_wp2_with fail
    refine (cloneB aN cN n _ wc HN.out HnN.out (by omega) (fun i => rfl)).mono ?_
    rintro e w1 ⟨a1, rfl, r1, b1, e1⟩
    have R1 := hide r1
    have B1 := hide b1
    clear r1 b1 e1
    go_wp2_with fail
    refine (cloneS aD cD n _ w1 (HD.out.below B1.out) HnD.out (by omega) (fun i => rfl)).mono ?_
    rintro e w2 ⟨a2, rfl, r2, b2, e2⟩
    have R2 := hide r2
    have B2 := hide (B1.out.trans (b2.mono B1.out.size))
    have R1 := hide (R1.out.below b2)
    clear r2 b2 e2 B1
    go_wp2_with fail
    refine (cloneS aE cE n _ w2 (HE.out.below B2.out) HnE.out (by omega) (fun i => rfl)).mono ?_
    rintro e w3 ⟨a3, rfl, r3, b3, e3⟩
    have R3 := hide r3
    have B3 := hide (B2.out.trans (b3.mono B2.out.size))
    have R1 := hide (R1.out.below b3)
    have R2 := hide (R2.out.below b3)
    clear r3 b3 e3 B2
    go_wp2_with fail
    refine (cloneI aF cF lf _ w3 (HF.out.below B3.out) HnF.out (by omega) (fun i => rfl)).mono ?_
    rintro e w4 ⟨a4, rfl, r4, b4, e4⟩
    have hg : Given w4 a1 a2 a3 a4 n lf N D E G := ⟨R1.out.below b4, R2.out.below b4, R3.out.below b4, h6, HSz.out.1, HSz.out.2, fun h => HFR.out (fun h' => h (e4.2 h')), r4⟩
    have HG := hide hg
    have B4 := hide (B3.out.trans (b4.mono B3.out.size))
    clear hg r4 b4 e4 R1 R2 R3 B3 HFR HSz HN HD HE HF HnN HnD HnE HnF
    go_wp2_with fail
    refine (ten_any a1 a2 a3 a4 n n n lf n lf N D E G w4 HG.out).mono ?_
    rintro e w5 ⟨fb, x1, x2, x3, x4, x5, x6, x7, x8, x9, rfl, hc5, b5⟩
    have HG := hide (HG.out.on b5)
    have B5 := hide (B4.out.trans (b5.mono B4.out.size))
    have HC5 := hide hc5
    clear hc5 b5 B4
    obtain ⟨i32, hi32, hz320, hz321, hz322⟩ := info_parts Try.info32
    have m38 := fun w => make_run 38 32 (n + 1) (.int .u32 0) i32 w Try.underlying38 hi32 hz320 hz321 rfl (by omega) (by omega)
    rw [Int.natCast_add] at m38
    change ∀ w, (Instr.makeSlice 38 (.int .i64 ((n : Int) + 1)) (.int .i64 ((n : Int) + 1))).run Try.prog w = _ at m38
    clear hi32 hz320 hz321 hz322
    go_wp2_with fail
    obtain ⟨F, hF⟩ : ∃ F, F = fps N D E := ⟨_, rfl⟩
    have hFb : ∀ i, 0 ≤ F i ∧ F i < 4294967296 := by rw [hF]; intro i; exact fp_bounds _ _ _
    have HFb := hide hFb
    rw [← hF] at HC5
    have HFe := hide hF
    obtain ⟨lp, hlp⟩ : ∃ lp, lp = bits .and .u32 p 4095 := ⟨_, rfl⟩
    rw [← hlp]
    have HLP := hide hlp
    obtain ⟨mb, hmb⟩ : ∃ mb, mb = w5.heap.size := ⟨_, rfl⟩
    rw [← hmb]
    have hmb' : w5.heap.size ≤ mb := by omega
    have hfm : 0 < n → fb < mb := fun h => by have := World.block_lt_of_cell? _ _ (HC5.out 0 h); simp only at this; omega
    have HFM := hide hfm
    have hM0 : Ml w5 F lp n mb 0 (zeros w5 32 (n + 1) (.int .u32 0)) := ⟨by rw [hmb]; exact (blk_zeros _ _ _ _).congr (fun i _ => by simp), below_zeros (Below.refl _ _) (Nat.le_refl _) _ _ _⟩
    have HM0 := hide hM0
    clear hM0 hF hFb hlp hmb hfm m38
    go_loopw [24] (fun v wr => ∃ k : Nat, v = .int .i64 k ∧ k ≤ n ∧ Ml w5 F lp n mb k wr) (fun v _ => n - (intOf v).toNat)
    case atStart => exact ⟨0, rfl, Nat.zero_le _, HM0.out⟩
    case round =>
      clear HM0
      obtain ⟨k, rfl, hk, hM⟩ := hrel
      by_cases hlt : k < n
      · as_aux_lemma =>
          have c1 := cell_on hM.below (HC5.out k hlt)
          have c2 := hM.row.cell (k := k) (by omega)
          have z2 := hM.row.frozen k
          have hne := HFM.out (by omega)
          go_wp2
          go_roundw
          case rel =>
            refine ⟨k + 1, by go_num, by omega, ⟨(hM.row.set k _).congr (fun i hi => ?_), hM.below.setCell hmb' _⟩⟩
            unfold upd
            by_cases h : i = k
            · subst h; simp
            · rw [if_neg h]; exact val_int (by simp [show (i < k + 1) = (i < k) by simp; omega])
          case measure => simp [intOf]; omega
      · obtain rfl : n = k := by omega
        clear hlt hk
        have c2 := hM.row.cell (k := n) (by omega)
        have z2 := hM.row.frozen n
        obtain ⟨M, hMd⟩ : ∃ M : Nat → Int, M = fun i => if i < n then bits .xor .u32 (F i) lp else p := ⟨_, rfl⟩
        have hrow : Row (wr.setCell ⟨mb, n, none⟩ (.int .u32 p)) (some ⟨mb, 0, none⟩) (n + 1) fun i => .int .u32 (M i) := by
          refine Or.inr ⟨mb, 0, rfl, fun i hi => ?_⟩
          rw [Nat.zero_add, (hM.row.set n (.int .u32 p)).cell hi, hMd]
          unfold upd
          by_cases h : i = n
          · subst h; simp
          · rw [if_neg h]; simp [show i < n by omega]
        have hb7 : Below w5.heap.size w5 (wr.setCell ⟨mb, n, none⟩ (.int .u32 p)) := hM.below.setCell hmb' _
        have HR := hide hrow
        have HB7 := hide hb7
        have HMd := hide hMd
        clear hrow hb7 hMd hM
        go_wp2_with fail
        generalize wr.setCell ⟨mb, n, none⟩ (.int .u32 p) = w7 at *
        clear c2 z2
        refine (lookups_any a1 a2 a3 a4 (some ⟨mb, 0, none⟩) n n n lf (n + 1) n lf (n + 1) N D E G M w7 (HG.out.on HB7.out) HR.out (by omega)).mono ?_
        rintro e w8 ⟨f, kk, u, b6, rfl, hgot, hnums, hb8⟩
        have hB8 : Below wc.heap.size wc w8 := (B5.out.trans (HB7.out.mono B5.out.size)).trans (hb8.mono (by have := B5.out.size; have := HB7.out.size; omega))
        have hc8 : ∀ i, i < n → w8.cell? ⟨fb, i, none⟩ = some (.int .u32 (F i)) := fun i hi => cell_on hb8 (cell_on HB7.out (HC5.out i hi))
        rw [← HFe.out] at hgot hnums
        have HC8 := hide hc8
        have HGot := hide hgot
        have HNums := hide hnums
        have HB8 := hide hB8
        clear hc8 hgot hnums hB8 hb8 HG HR HB7 HC5 B5
        go_wp2_with fail
        have hmx : ∀ i, i < n → mk (M i) = mk (F i) := fun i hi => by
          rw [HMd.out]
          simp only [hi, if_true]
          rw [HLP.out]
          exact mk_xor _ _ (HFb.out i).1 (HFb.out i).2 hp0 hp1
        have HMX := hide hmx
        have hmn : mk (M n) = mk p := by rw [HMd.out]; simp
        have HMN := hide hmn
        clear hmx hmn
        go_loop [28] (fun v => ∃ i : Nat, v = .int .i64 i ∧ i ≤ n) (fun v => n - (intOf v).toNat)
        case atStart => exact ⟨0, rfl, Nat.zero_le _⟩
        case round =>
          obtain ⟨i, rfl, hi⟩ := hrel
          by_cases hlt : i < n
          · as_aux_lemma =>
              obtain ⟨vf, vk, vu, g1, g2, g3, hgv⟩ := HGot.out i (by omega)
              rw [HMX.out i hlt] at hgv
              obtain ⟨lo, hh, hG, rfl, rfl, rfl⟩ := hgv.group hlt rfl
              have c1 := HC8.out i hlt
              have hm : bits BinOp.andNot IntKind.u32 (F i) 4095 = mk (F i) := rfl
              have hGlt := hG.lt
              have hGle := hG.le
              have hpl := hG.place h6 hlt rfl
              have heq := hG.eq
              generalize mk (F i) = m at *
              obtain ⟨L, hL⟩ : ∃ L, L = hh - lo := ⟨_, rfl⟩
              rw [← hL] at g3 hpl
              have hlo : lo + L ≤ n := by omega
              have HEQ := hide heq
              have HPL := hide hpl
              have hLh : lo + L = hh := by omega
              have HLH := hide hLh
              clear heq hpl hL hgv hG hLh hGle hGlt
              go_wp2
              go_loop [30, 31] (fun v30 v31 => ∃ (b : Bool) (t : Nat), v30 = .bool b ∧ v31 = .int .i64 t ∧ t ≤ L ∧ ∀ s, s < t → nat n F (lo + s) = i → b = true) (fun _ v => L - (intOf v).toNat)
              case atStart => exact ⟨false, 0, rfl, rfl, Nat.zero_le _, fun s hs => absurd hs (by omega)⟩
              case round =>
                obtain ⟨b, t, rfl, rfl, ht, hb⟩ := hrel
                have HBt := hide hb
                clear hb
                by_cases htl : t < L
                · obtain ⟨A, hA⟩ : ∃ A, A = nat n F (lo + t) := ⟨_, rfl⟩
                  have hAn : A < n := by rw [hA]; exact nat_lt h6 (by omega)
                  have c2 := HNums.out (lo + t) (by omega)
                  rw [← hA] at c2
                  have c3 := HC8.out A hAn
                  have hmA : bits BinOp.andNot IntKind.u32 (F A) 4095 = m := by
                    have := HEQ.out (lo + t) (by omega) (by have := HLH.out; omega)
                    unfold mark at this
                    rw [← hA] at this
                    exact this
                  have HA := hide hA
                  clear hA
                  by_cases hai : A = i
                  · subst hai
                    go_wp2
                    go_round
                    case rel => exact ⟨true, t + 1, rfl, by go_num, by omega, fun _ _ _ => rfl⟩
                    case measure => simp [intOf]; omega
                  · have hai' : ((A : Int) == (i : Int)) = false := by simp; omega
                    go_wp2
                    go_round
                    case rel => exact ⟨b, t + 1, rfl, by go_num, by omega, fun s hs e => by
                      by_cases h : s < t
                      · exact HBt.out s h e
                      · rw [show s = t by omega, ← HA.out] at e; exact absurd e hai⟩
                    case measure => simp [intOf]; omega
                · obtain ⟨s, hs, e⟩ := HPL.out
                  have hbt := HBt.out s (by omega) e
                  subst hbt
                  go_wp2
                  go_round
                  case rel => exact ⟨i + 1, by go_num, by omega⟩
                  case measure => simp [intOf]; omega
          · obtain ⟨vf, vk, vu, g1, g2, g3, hgv⟩ := HGot.out n (by omega)
            rw [HMN.out] at hgv
            have hmp : bits BinOp.andNot IntKind.u32 p 4095 = mk p := rfl
            generalize mk p = mp at *
            obtain ⟨ao, L, rfl, hL, rfl, rfl, hget⟩ := hgv.form h6 HNums.out
            have HGet := hide hget
            have HL := hide hL
            have hLn : L ≤ 4096 := by have := cnt_top F mp n; rw [cnt_all] at this; omega
            clear hgv hget hL
            go_wp2
            go_loop [35, 36] (fun v35 v36 => ∃ a : Nat, v36 = .int .i64 a ∧ a ≤ n ∧ v35 = .int .i64 (cnt F mp a : Nat)) (fun _ v => n - (intOf v).toNat)
            case atStart => exact ⟨0, rfl, Nat.zero_le _, rfl⟩
            case round =>
              obtain ⟨a, rfl, ha, rfl⟩ := hrel
              by_cases hal : a < n
              · as_aux_lemma =>
                  have c1 := HC8.out a hal
                  have hct := cnt_top F mp a
                  by_cases hma : mk (F a) = mp
                  · obtain ⟨hlt2, B, o, rfl, c2⟩ := HGet.out a hal hma
                    have HY := hide (cnt_yes F mp a hma)
                    have hma' : bits BinOp.andNot IntKind.u32 (F a) 4095 = mp := hma
                    clear hma
                    generalize cnt F mp a = C at *
                    go_wp2
                    go_round
                    case rel => exact ⟨a + 1, by go_num, by omega, val_int (by rw [HY.out]; omega)⟩
                    case measure => simp [intOf]; omega
                  · have HY := hide (cnt_no F mp a hma)
                    have hma' : (bits BinOp.andNot IntKind.u32 (F a) 4095 == mp) = false := by rw [beq_eq_false_iff_ne]; exact hma
                    clear hma
                    generalize cnt F mp a = C at *
                    go_wp2
                    go_round
                    case rel => exact ⟨a + 1, by go_num, by omega, val_int (by rw [HY.out])⟩
                    case measure => simp [intOf]; omega
              · obtain rfl : n = a := by omega
                have hcn : cnt F mp n = L := by rw [cnt_all]; exact HL.out.symm
                rw [hcn]
                clear hcn
                by_cases hL0 : 0 < L
                · have hb0 : ((L : Int) == 0) = false := by simp; omega
                  rw [if_pos hL0] at g2
                  go_wp2
                  go_ret
                  exact ⟨by simp, HB8.out⟩
                · obtain rfl : L = 0 := by omega
                  go_wp2
                  go_ret
                  exact ⟨by simp, HB8.out⟩
end Go.Proofs.Qxb6600341a
