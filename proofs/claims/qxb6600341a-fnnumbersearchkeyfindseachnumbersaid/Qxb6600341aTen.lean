import Derived.Test.Qxb6600341aGiven
namespace Go.Proofs.Qxb6600341a
open Go.RowKit
theorem results_tmp10 {fn : Func} {t0 t1 t2 t3 t4 t5 t6 t7 t8 t9 : Tmp} (h : fn.results = #[.tmp t0, .tmp t1, .tmp t2, .tmp t3, .tmp t4, .tmp t5, .tmp t6, .tmp t7, .tmp t8, .tmp t9]) (tmps : Array Value) (P : Program) (w : World) :
    (results fn tmps).run P w = .ok (.tuple #[tmps.getD t0 undef, tmps.getD t1 undef, tmps.getD t2 undef, tmps.getD t3 undef, tmps.getD t4 undef, tmps.getD t5 undef, tmps.getD t6 undef, tmps.getD t7 undef, tmps.getD t8 undef, tmps.getD t9 undef]) w := by
  simp [results, h]

/-- ZZNewNumberSearch's four rows, of which nothing is asked but that they are there -/
structure Lz (wF : World) (K a b c d : Nat) (wr : World) : Prop where
  make ::
  rows : ∃ g1 g2 g3 g4 : Nat → Value, Blk wr a 32 K g1 ∧ Blk wr b 31 K g2 ∧ Blk wr c 3 K g3 ∧ Blk wr d 3 K g4
  below : Below wF.heap.size wF wr
theorem Lz.step {wF wr : World} {K a b c d : Nat} (h : Lz wF K a b c d wr) (ha : wF.heap.size ≤ a) (hab : a < b) (hbc : b < c) (hcd : c < d) (q : Nat) (x1 x2 x3 x4 : Value) :
    Lz wF K a b c d ((((wr.setCell ⟨a, q, none⟩ x1).setCell ⟨b, q, none⟩ x2).setCell ⟨c, q, none⟩ x3).setCell ⟨d, q, none⟩ x4) := by
  obtain ⟨g1, g2, g3, g4, h1, h2, h3, h4⟩ := h.rows
  refine ⟨⟨_, _, _, _, (((h1.set q x1).other (by omega) _ _).other (by omega) _ _).other (by omega) _ _, (((h2.other (by omega) _ _).set q x2).other (by omega) _ _).other (by omega) _ _,
    (((h3.other (by omega) _ _).other (by omega) _ _).set q x3).other (by omega) _ _, (((h4.other (by omega) _ _).other (by omega) _ _).other (by omega) _ _).set q x4⟩, ?_⟩
  exact (((h.below.setCell ha _).setCell (by show _ ≤ b; omega) _).setCell (by show _ ≤ c; omega) _).setCell (by show _ ≤ d; omega) _

/-- what ZZNewNumberSearch hands back -/
def Ten (w : World) (n : Nat) (F : Nat → Int) (e : Ending) (w' : World) : Prop :=
  ∃ (b1 : Nat) (x1 x2 x3 x4 x5 x6 x7 x8 x9 : Value), e = .returned (.tuple #[.slice (some ⟨b1, 0, none⟩) n n, x1, x2, x3, x4, x5, x6, x7, x8, x9]) ∧ (∀ i, i < n → w'.cell? ⟨b1, i, none⟩ = some (.int .u32 (F i))) ∧ Below w.heap.size w w'

set_option maxHeartbeats 8000000 in
set_option maxRecDepth 100000 in
theorem ten_any (aN aD aE aF : Option Addr) (cN cD cE cF n lf : Nat) (N : Nat → Bool) (D E : Nat → ByteArray) (G : Nat → Int) (w : World) (hg : Given w aN aD aE aF n lf N D E G) :
    Calls Try.prog 15 #[.slice aN n cN, .slice aD n cD, .slice aE n cE, .slice aF lf cF] w fun e w' => Ten w n (fps N D E) e w' := by
  obtain ⟨i32, hi32, hz320, hz321, hz322⟩ := info_parts Try.info32
  obtain ⟨i31, hi31, hz310, hz311, hz312⟩ := info_parts Try.info31
  obtain ⟨i3, hi3, hz30, hz31, hz32⟩ := info_parts Try.info3
  have m38 := fun (K : Nat) (hK : K ≤ 4097) w => make_run 38 32 K (.int .u32 0) i32 w Try.underlying38 hi32 hz320 hz321 rfl (by omega) hK
  have m31 := fun (K : Nat) (hK : K ≤ 4097) w => make_run 31 3 K (.int .i64 0) i3 w Try.underlying31 hi3 hz30 hz31 rfl (by omega) hK
  have m39 := fun (K : Nat) (hK : K ≤ 4097) w => make_run 39 31 K (.slice none 0 0) i31 w Try.underlying39 hi31 hz310 hz311 rfl (by omega) hK
  have M38 := hide m38
  have M31 := hide m31
  have M39 := hide m39
  clear m38 m31 m39 hi32 hz320 hz321 hz322 hi31 hz310 hz311 hz312 hi3 hz30 hz31 hz32
  have HG := hide hg
  have hfew := hg.few
  clear hg
  go_enter Try.func15, Try.ntmps15
  go_upto_region 1 with fail
  go_cut [18] from 20 (fun v wx => ∃ b1 b6 S ks ao ck v2 v3 v4 w1, v = .pointer (some ⟨S, 0, none⟩) ∧ Below w.heap.size w w1 ∧ Found w1 n (fps N D E) b1 b6 S ks ao ck v2 v3 v4 wx)
  case first =>
    go_wp2_with (first
      | (go_at_call 20; refine (worths_on aN aD aE cN cD cE n N D E w HG.out.neg HG.out.dig HG.out.exp HG.out.few).mono ?_; rintro e w1 ⟨rfl, hW1, hb1, hl1⟩; have HW1 := hide hW1; have HB1 := hide hb1; clear hW1 hb1)
      | (go_at_call 19; refine (searched HG.out cF HW1.out hl1 HB1.out).mono ?_; rintro e w2 ⟨b1, b6, S, ks, ao, ck, v2, v3, v4, rfl, hF⟩; have HFo := hide hF; clear hF))
    go_meet
    exact ⟨_, _, _, _, _, _, _, _, _, w1, rfl, HB1.out, HFo.out⟩
  case rest =>
    obtain ⟨b1, b6, S, ks, ao, ck, v2, v3, v4, w1, rfl, hbw, hF⟩ := hcut
    obtain ⟨K, hK⟩ : ∃ K, K = ks.length := ⟨_, rfl⟩
    have hK4 : K ≤ 4096 := by have := hF.keyed.few; omega
    have s6 := hF.s6
    rw [← hK] at s6
    have lS : S < wc.heap.size := World.block_lt_of_cell? _ _ s6
    have HF := hide hF
    have HK := hide hK
    have hsz := hbw.size
    clear hF hK
    have m38 := M38.out K (by omega)
    have m31 := M31.out K (by omega)
    have m39 := M39.out K (by omega)
    obtain ⟨Z1, hZ1⟩ : ∃ Z, Z = zeros wc 32 K (.int .u32 0) := ⟨_, rfl⟩
    obtain ⟨Z2, hZ2⟩ : ∃ Z, Z = zeros Z1 31 K (.slice none 0 0) := ⟨_, rfl⟩
    obtain ⟨Z3, hZ3⟩ : ∃ Z, Z = zeros Z2 3 K (.int .i64 0) := ⟨_, rfl⟩
    obtain ⟨Z4, hZ4⟩ : ∃ Z, Z = zeros Z3 3 K (.int .i64 0) := ⟨_, rfl⟩
    have c1 : Z1.cell? ⟨S, 6, none⟩ = some (.slice ao K ck) := by rw [hZ1]; exact cell_on (below_zeros (Below.refl _ _) (Nat.le_refl _) _ _ _) s6
    have c2 : Z2.cell? ⟨S, 6, none⟩ = some (.slice ao K ck) := by rw [hZ2]; exact cell_on (below_zeros (Below.refl _ _) (Nat.le_refl _) _ _ _) c1
    have c3 : Z3.cell? ⟨S, 6, none⟩ = some (.slice ao K ck) := by rw [hZ3]; exact cell_on (below_zeros (Below.refl _ _) (Nat.le_refl _) _ _ _) c2
    have c4 : Z4.cell? ⟨S, 6, none⟩ = some (.slice ao K ck) := by rw [hZ4]; exact cell_on (below_zeros (Below.refl _ _) (Nat.le_refl _) _ _ _) c3
    have e1 := m38 wc
    have e2 := m39 Z1
    have e3 := m31 Z2
    have e4 := m31 Z3
    have f1 : Z1.heap.size = wc.heap.size + 1 := by rw [hZ1, size_zeros]
    have f2 : Z2.heap.size = wc.heap.size + 1 + 1 := by rw [hZ2, size_zeros, f1]
    have f3 : Z3.heap.size = wc.heap.size + 1 + 1 + 1 := by rw [hZ3, size_zeros, f2]
    rw [← hZ1] at e1
    rw [← hZ2, f1] at e2
    rw [← hZ3, f2] at e3
    rw [← hZ4, f3] at e4
    have hL0 : Lz wc K wc.heap.size (wc.heap.size + 1) (wc.heap.size + 1 + 1) (wc.heap.size + 1 + 1 + 1) Z4 := by
      refine ⟨⟨fun _ => .int .u32 0, fun _ => .slice none 0 0, fun _ => .int .i64 0, fun _ => .int .i64 0, ?_, ?_, ?_, ?_⟩, ?_⟩
      · rw [hZ4, hZ3, hZ2, hZ1]; exact (((blk_zeros wc 32 K (.int .u32 0)).zeros _ _ _).zeros _ _ _).zeros _ _ _
      · rw [hZ4, hZ3, hZ2, ← f1]; exact ((blk_zeros Z1 31 K (.slice none 0 0)).zeros _ _ _).zeros _ _ _
      · rw [hZ4, hZ3, ← f2]; exact (blk_zeros Z2 3 K (.int .i64 0)).zeros _ _ _
      · rw [hZ4, ← f3]; exact blk_zeros Z3 3 K (.int .i64 0)
      · rw [hZ4]
        refine below_zeros ?_ (by omega) _ _ _
        rw [hZ3]
        refine below_zeros ?_ (by omega) _ _ _
        rw [hZ2]
        refine below_zeros ?_ (by omega) _ _ _
        rw [hZ1]
        exact below_zeros (Below.refl _ _) (by omega) _ _ _
    have HL0 := hide hL0
    obtain ⟨a, ha⟩ : ∃ a, a = wc.heap.size := ⟨_, rfl⟩
    rw [← ha] at e1 e2 e3 e4 HL0
    obtain ⟨b, hb⟩ : ∃ b, b = a + 1 := ⟨_, rfl⟩
    rw [← hb] at e2 e3 e4 HL0
    obtain ⟨c, hc⟩ : ∃ c, c = b + 1 := ⟨_, rfl⟩
    rw [← hc] at e3 e4 HL0
    obtain ⟨d, hd⟩ : ∃ d, d = c + 1 := ⟨_, rfl⟩
    rw [← hd] at e4 HL0
    have hha : wc.heap.size ≤ a := by omega
    have hab : a < b := by omega
    have hbc : b < c := by omega
    have hcd : c < d := by omega
    clear hZ1 hZ2 hZ3 hZ4 f1 f2 f3 hL0 m38 m31 m39 ha hb hc hd
    go_wp2
    go_loopw [55] (fun v wr => ∃ q : Nat, v = .int .i64 q ∧ q ≤ K ∧ Lz wc K a b c d wr) (fun v _ => K - (intOf v).toNat)
    case atStart => exact ⟨0, rfl, Nat.zero_le _, HL0.out⟩
    case round =>
      clear HL0 c1 c2 c3 c4 s6 e1 e2 e3 e4
      obtain ⟨q, rfl, hq, hL⟩ := hrel
      have hFr := HF.out.on hL.below
      by_cases hlt : q < K
      · obtain ⟨y, hy⟩ : ∃ y, ks[q]? = some y := ⟨_, List.getElem?_eq_getElem (by rw [← HK.out]; exact hlt)⟩
        obtain ⟨g1, g2, g3, g4, r1, r2, r3, r4⟩ := hL.rows
        have z1 := r1.frozen q
        have z2 := r2.frozen q
        have z3 := r3.frozen q
        have z4 := r4.frozen q
        have r1 := r1.cell hlt
        have r2 := r2.cell hlt
        have r3 := r3.cell hlt
        have r4 := r4.cell hlt
        obtain ⟨g, hg', k0, k1, k2, k3⟩ := HF.out.keys q y hy
        cases hg'
        have hga : g < a := by have := World.block_lt_of_cell? _ _ k0; simp only at this; omega
        have hSa : S < a := by omega
        have k0 := cell_on hL.below k0
        have k1 := cell_on hL.below k1
        have k2 := cell_on hL.below k2
        have k3 := cell_on hL.below k3
        have s6 := hFr.s6
        rw [← HK.out] at s6
        have HY := hide hy
        clear hy hFr
        go_wp2
        go_roundw
        case rel => exact ⟨q + 1, by go_num, by omega, hL.step hha hab hbc hcd q _ _ _ _⟩
        case measure => simp [intOf]; omega
      · have s1 := hFr.s1
        have s2 := hFr.s2
        have s3 := hFr.s3
        have s4 := hFr.s4
        have s5 := hFr.s5
        have s7 := hFr.s7
        have HFr := hide hFr
        clear hFr
        go_wp2
        go_quiet (fail)
        go_wp2
        (try simp only [Exit.inBlock, Exit.then])
        refine bodyPost_ret (results_tmp10 rfl _ _ _) rfl ?_
        have hdr : Dr wr (wr.drewN nq) := ⟨nq, rfl⟩
        exact ⟨b1, _, _, _, _, _, _, _, _, _, rfl, (HFr.out.on (hdr.below _)).fps, (((hbw.trans (HF.out.below.mono hsz)).trans (hL.below.mono (by have := HF.out.below.size; omega))).trans (hdr.below _))⟩
end Go.Proofs.Qxb6600341a
