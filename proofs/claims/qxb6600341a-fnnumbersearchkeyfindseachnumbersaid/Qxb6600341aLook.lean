import Derived.Test.Qxb6600341aGiven
namespace Go.Proofs.Qxb6600341a
open Go.RowKit
/-- what one look-up is -/
def GotV (n : Nat) (F : Nat → Int) (b6 : Nat) (m : Int) (vf vk vu : Value) : Prop :=
  (∃ lo hi, Group n F m lo hi ∧ vf = .bool true ∧ vk = .int .u32 m ∧ vu = .slice (some ⟨b6, lo, none⟩) (hi - lo) (hi - lo)) ∨ (having n F m = [] ∧ vf = .bool false ∧ vk = .int .u32 0 ∧ vu = .slice none 0 0)
def LooksP (ks : List Key) (ao : Option Addr) (m : Int) (p : Option Addr) : Prop :=
  (∃ j y g, ks[j]? = some y ∧ y.m = m ∧ ao = some ⟨g, 0, none⟩ ∧ p = some ⟨g, j * 4, none⟩) ∨ ((∀ y ∈ ks, y.m ≠ m) ∧ p = none)
theorem Looks.form {ks : List Key} {ao : Option Addr} {m : Int} {e : Ending} (h : Looks ks ao m e) : ∃ p, e = .returned (.pointer p) ∧ LooksP ks ao m p := by
  rcases h with ⟨j, y, g, a, b, c, d⟩ | ⟨a, b⟩
  · exact ⟨_, d, Or.inl ⟨j, y, g, a, b, c, rfl⟩⟩
  · exact ⟨_, b, Or.inr ⟨a, rfl⟩⟩
structure Lk (wF : World) (n : Nat) (F : Nat → Int) (b6 nm : Nat) (M : Nat → Int) (f k u q : Nat) (wr : World) : Prop where
  make ::
  rows : ∃ gf gk gu : Nat → Value, Blk wr f 4 nm gf ∧ Blk wr k 32 nm gk ∧ Blk wr u 31 nm gu ∧ (∀ i, i < q → i < nm → GotV n F b6 (mk (M i)) (gf i) (gk i) (gu i)) ∧
    (∀ i, q ≤ i → i < nm → gf i = .bool false ∧ gk i = .int .u32 0 ∧ gu i = .slice none 0 0)
  below : Below wF.heap.size wF wr
/-- what ZZKeyLookups hands back -/
def Lookups (w : World) (n : Nat) (F : Nat → Int) (nm : Nat) (M : Nat → Int) (e : Ending) (w' : World) : Prop :=
  ∃ f k u b6 : Nat, e = .returned (.tuple #[.slice (some ⟨f, 0, none⟩) nm nm, .slice (some ⟨k, 0, none⟩) nm nm, .slice (some ⟨u, 0, none⟩) nm nm]) ∧
    (∀ i, i < nm → ∃ vf vk vu, w'.cell? ⟨f, i, none⟩ = some vf ∧ w'.cell? ⟨k, i, none⟩ = some vk ∧ w'.cell? ⟨u, i, none⟩ = some vu ∧ GotV n F b6 (mk (M i)) vf vk vu) ∧
    (∀ i, i < n → w'.cell? ⟨b6, i, none⟩ = some (.int .i64 (nat n F i : Int))) ∧ Below w.heap.size w w'

theorem Lk.got {wF wr wr' : World} {n : Nat} {F : Nat → Int} {b6 nm : Nat} {M : Nat → Int} {f k u q : Nat} (h : Lk wF n F b6 nm M f k u q wr) (hq : q < nm) (hfk : f < k) (hku : k < u) (hf : wF.heap.size ≤ f) (hd : Dr wr wr')
    {lo hi : Nat} {m : Int} (hm : m = mk (M q)) (hG : Group n F m lo hi) :
    Lk wF n F b6 nm M f k u (q + 1) (((wr'.setCell ⟨f, q, none⟩ (.bool true)).setCell ⟨k, q, none⟩ (.int .u32 m)).setCell ⟨u, q, none⟩ (.slice (some ⟨b6, lo, none⟩) (hi - lo) (hi - lo))) := by
  obtain ⟨gf, gk, gu, h1, h2, h3, h4, h5⟩ := h.rows
  have h1 := h1.kept (hd.grown none) (by simp)
  have h2 := h2.kept (hd.grown none) (by simp)
  have h3 := h3.kept (hd.grown none) (by simp)
  refine ⟨⟨_, _, _, ((h1.set q (.bool true)).other (by omega) _ _).other (by omega) _ _, ((h2.other (by omega) _ _).set q _).other (by omega) _ _, ((h3.other (by omega) _ _).other (by omega) _ _).set q _, ?_, ?_⟩, ?_⟩
  · intro i hi1 hi2
    unfold upd
    by_cases e : i = q
    · subst e
      simp only [if_true]
      rw [← hm]
      exact Or.inl ⟨lo, hi, hG, rfl, rfl, rfl⟩
    · simp only [e, if_false]
      exact h4 i (by omega) hi2
  · intro i hi1 hi2
    have e : i ≠ q := by omega
    unfold upd
    simp only [e, if_false]
    exact h5 i (by omega) hi2
  · exact (((h.below.trans (hd.below _)).setCell hf _).setCell (by show _ ≤ k; omega) _).setCell (by show _ ≤ u; omega) _
theorem Lk.not {wF wr wr' : World} {n : Nat} {F : Nat → Int} {b6 nm : Nat} {M : Nat → Int} {f k u q : Nat} (h : Lk wF n F b6 nm M f k u q wr) (hq : q < nm) (hd : Dr wr wr') (hno : having n F (mk (M q)) = []) :
    Lk wF n F b6 nm M f k u (q + 1) wr' := by
  obtain ⟨gf, gk, gu, h1, h2, h3, h4, h5⟩ := h.rows
  refine ⟨⟨_, _, _, h1.kept (hd.grown none) (by simp), h2.kept (hd.grown none) (by simp), h3.kept (hd.grown none) (by simp), ?_, fun i h1 h2 => h5 i (by omega) h2⟩, h.below.trans (hd.below _)⟩
  intro i hi1 hi2
  by_cases e : i = q
  · subst e
    obtain ⟨a, b, c⟩ := h5 i (Nat.le_refl _) hi2
    exact Or.inr ⟨hno, a, b, c⟩
  · exact h4 i (by omega) hi2

set_option maxHeartbeats 8000000 in
set_option maxRecDepth 100000 in
theorem lookups_any (aN aD aE aF aM : Option Addr) (cN cD cE cF cM n lf nm : Nat) (N : Nat → Bool) (D E : Nat → ByteArray) (G M : Nat → Int) (w : World) (hg : Given w aN aD aE aF n lf N D E G) (hM : Row w aM nm fun i => .int .u32 (M i)) (hnm : nm ≤ 4097) :
    Calls Try.prog 16 #[.slice aN n cN, .slice aD n cD, .slice aE n cE, .slice aF lf cF, .slice aM nm cM] w fun e w' => Lookups w n (fps N D E) nm M e w' := by
  obtain ⟨i32, hi32, hz320, hz321, hz322⟩ := info_parts Try.info32
  obtain ⟨i31, hi31, hz310, hz311, hz312⟩ := info_parts Try.info31
  obtain ⟨i4, hi4, hz40, hz41, hz42⟩ := info_parts Try.info4
  have m38 := fun w => make_run 38 32 nm (.int .u32 0) i32 w Try.underlying38 hi32 hz320 hz321 rfl (by omega) hnm
  have m29 := fun w => make_run 29 4 nm (.bool false) i4 w Try.underlying29 hi4 hz40 hz41 rfl (by omega) hnm
  have m39 := fun w => make_run 39 31 nm (.slice none 0 0) i31 w Try.underlying39 hi31 hz310 hz311 rfl (by omega) hnm
  clear hi32 hz320 hz321 hz322 hi31 hz310 hz311 hz312 hi4 hz40 hz41 hz42
  have HG := hide hg
  have HM := hide hM
  have hfew := hg.few
  clear hg hM
  go_enter Try.func16, Try.ntmps16
  go_upto_region 1 with fail
  go_cut [13] from 16 (fun v wx => ∃ b1 b6 S ks ao ck v2 v3 v4 w1, v = .pointer (some ⟨S, 0, none⟩) ∧ Below w.heap.size w w1 ∧ Found w1 n (fps N D E) b1 b6 S ks ao ck v2 v3 v4 wx)
  case first =>
    clear m38 m29 m39
    go_wp2_with (first
      | (go_at_call 20; refine (worths_on aN aD aE cN cD cE n N D E w HG.out.neg HG.out.dig HG.out.exp HG.out.few).mono ?_; rintro e w1 ⟨rfl, hW1, hb1, hl1⟩; have HW1 := hide hW1; have HB1 := hide hb1; clear hW1 hb1)
      | (go_at_call 19; refine (searched HG.out cF HW1.out hl1 HB1.out).mono ?_; rintro e w2 ⟨b1, b6, S, ks, ao, ck, v2, v3, v4, rfl, hF⟩; have HFo := hide hF; clear hF))
    go_meet
    exact ⟨_, _, _, _, _, _, _, _, _, w1, rfl, HB1.out, HFo.out⟩
  case rest =>
    obtain ⟨b1, b6, S, ks, ao, ck, v2, v3, v4, w1, rfl, hbw, hF⟩ := hcut
    have HF := hide hF
    have hsz := hbw.size
    clear hF
    go_wp2
    obtain ⟨f, hf⟩ : ∃ f, f = wc.heap.size := ⟨_, rfl⟩
    have hk : (zeros wc 4 nm (.bool false)).heap.size = f + 1 := by rw [size_zeros, hf]
    have hu : (zeros (zeros wc 4 nm (.bool false)) 32 nm (.int .u32 0)).heap.size = f + 1 + 1 := by rw [size_zeros, hk]
    have hL0 : Lk wc n (fps N D E) b6 nm M f (f + 1) (f + 1 + 1) 0 (zeros (zeros (zeros wc 4 nm (.bool false)) 32 nm (.int .u32 0)) 31 nm (.slice none 0 0)) := by
      refine ⟨⟨_, _, _, ?_, ?_, ?_, fun i hi => absurd hi (by omega), fun i _ _ => ⟨rfl, rfl, rfl⟩⟩, ?_⟩
      · rw [hf]; exact ((blk_zeros wc 4 nm (.bool false)).zeros _ _ _).zeros _ _ _
      · rw [← hk]; exact (blk_zeros _ 32 nm (.int .u32 0)).zeros _ _ _
      · rw [← hu]; exact blk_zeros _ 31 nm (.slice none 0 0)
      · exact below_zeros (below_zeros (below_zeros (Below.refl _ _) (Nat.le_refl _) _ _ _) (by omega) _ _ _) (by omega) _ _ _
    have HL0 := hide hL0
    rw [hk, hu, ← hf]
    clear hk hu hL0
    obtain ⟨k, hk⟩ : ∃ k, k = f + 1 := ⟨_, rfl⟩
    obtain ⟨u, hu⟩ : ∃ u, u = f + 1 + 1 := ⟨_, rfl⟩
    rw [← hu, ← hk] at HL0 ⊢
    have hfk : f < k := by omega
    have hku : k < u := by omega
    have hFf : wc.heap.size ≤ f := by omega
    have HFf := hide hf
    clear hk hu hf m38 m29 m39
    go_loopw [33] (fun v wr => ∃ q : Nat, v = .int .i64 q ∧ q ≤ nm ∧ Lk wc n (fps N D E) b6 nm M f k u q wr) (fun v _ => nm - (intOf v).toNat)
    case atStart => exact ⟨0, rfl, Nat.zero_le _, HL0.out⟩
    case round =>
      clear HL0
      obtain ⟨q, rfl, hq, hL⟩ := hrel
      by_cases hlt : q < nm
      · have hbig : Below w.heap.size w wr := (hbw.trans (HF.out.below.mono hsz)).trans (hL.below.mono (by have := HF.out.below.size; omega))
        obtain ⟨mb, mo, hma, mc⟩ := (HM.out.below hbig).get hlt
        cases hma
        have hFr := HF.out.on hL.below
        have HFr := hide hFr
        have HL := hide hL
        clear hFr hL hbig
        go_upto_region 8 with fail
        go_cut [15] from 36 to 61 (fun v wx => ∃ p, v = .pointer p ∧ LooksP ks ao (mk (M q)) p ∧ Dr wr wx)
        case first =>
          go_wp2_with (go_at_call 21; refine (key_any HFr.out hfew (M q)).mono ?_; rintro e w' ⟨hlk, hdr⟩; obtain ⟨p, rfl, hp⟩ := hlk.form; have HP := hide hp; clear hp hlk)
          go_meet
          exact ⟨p, rfl, HP.out, hdr⟩
        case rest =>
          obtain ⟨p, rfl, hp, hdr⟩ := hcut
          clear mc
          rcases hp with ⟨j, y, g, hj, hm, hao, rfl⟩ | ⟨hno, rfl⟩
          · obtain ⟨gf, gk, gu, r1, r2, r3, _, _⟩ := HL.out.rows
            have z1 := (r1.kept (hdr.grown none) (by simp)).frozen q
            have z2 := (r2.kept (hdr.grown none) (by simp)).frozen q
            have z3 := (r3.kept (hdr.grown none) (by simp)).frozen q
            have r1 := (r1.kept (hdr.grown none) (by simp)).cell hlt
            have r2 := (r2.kept (hdr.grown none) (by simp)).cell hlt
            have r3 := (r3.kept (hdr.grown none) (by simp)).cell hlt
            have hgr := (HFr.out.keyed.group y (List.mem_of_getElem? hj)).1
            obtain ⟨g', hg', c0, c1, _, _⟩ := HF.out.keys j y hj
            have hgf : g' < f := by have := World.block_lt_of_cell? _ _ c0; simp only at this; omega
            have c0 := cell_on (HL.out.below.trans (hdr.below _)) c0
            have c1 := cell_on (HL.out.below.trans (hdr.below _)) c1
            rw [hao] at hg'
            cases hg'
            have HMq := hide hm
            have HGr := hide hgr
            clear hm hgr hao hj
            go_wp2
            go_roundw
            case rel => exact ⟨q + 1, by go_num, by omega, HL.out.got hlt hfk hku hFf hdr HMq.out HGr.out⟩
            case measure => simp [intOf]; omega
          · go_wp2
            go_roundw
            case rel => exact ⟨q + 1, by go_num, by omega, HL.out.not hlt hdr (HFr.out.keyed.having hfew hno)⟩
            case measure => simp [intOf]; omega
      · obtain rfl : nm = q := by omega
        go_wp2
        go_ret3
        refine ⟨f, k, u, b6, rfl, fun i hi => ?_, fun i hi => (HF.out.on hL.below).nums i hi, (hbw.trans (HF.out.below.mono hsz)).trans (hL.below.mono (by have := HF.out.below.size; omega))⟩
        obtain ⟨gf, gk, gu, r1, r2, r3, r4, _⟩ := hL.rows
        exact ⟨_, _, _, r1.cell hi, r2.cell hi, r3.cell hi, r4 i hi hi⟩
end Go.Proofs.Qxb6600341a
