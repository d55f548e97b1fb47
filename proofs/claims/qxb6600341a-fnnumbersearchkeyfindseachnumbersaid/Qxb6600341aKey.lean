import Derived.Test.Qxb6600341aBz
namespace Go.Proofs.Qxb6600341a
open Go.RowKit

theorem cell_on {a b : World} (h : Below a.heap.size a b) {p : Addr} {v : Value} (hc : a.cell? p = some v) : b.cell? p = some v :=
  (h.cell (World.block_lt_of_cell? _ _ hc)).trans hc
section
variable {w : World} {n : Nat} {F : Nat → Int} {b1 b6 S : Nat} {ks : List Key} {ao : Option Addr} {ck : Nat} {v2 v3 v4 : Value} {wr wr' : World}
theorem Found.on (h : Found w n F b1 b6 S ks ao ck v2 v3 v4 wr) (hb : Below wr.heap.size wr wr') : Found w n F b1 b6 S ks ao ck v2 v3 v4 wr' := by
  refine ⟨fun i hi => cell_on hb (h.fps i hi), fun i hi => cell_on hb (h.nums i hi), cell_on hb h.s1, cell_on hb h.s2, cell_on hb h.s3, cell_on hb h.s4, cell_on hb h.s5, cell_on hb h.s6, cell_on hb h.s7, ?_, h.keyed, h.below.trans (hb.mono h.below.size), h.ge⟩
  intro j x hj
  obtain ⟨g, hg, c0, c1, c2, c3⟩ := h.keys j x hj
  exact ⟨g, hg, cell_on hb c0, cell_on hb c1, cell_on hb c2, cell_on hb c3⟩
end

/-- what key hands back -/
def Looks (ks : List Key) (ao : Option Addr) (m : Int) (e : Ending) : Prop :=
  (∃ j y g, ks[j]? = some y ∧ y.m = m ∧ ao = some ⟨g, 0, none⟩ ∧ e = .returned (.pointer (some ⟨g, j * 4, none⟩))) ∨ ((∀ y ∈ ks, y.m ≠ m) ∧ e = .returned (.pointer none))

/-- the search's bounds -/
structure Bnd (ks : List Key) (m : Int) (lo hi : Nat) : Prop where
  make ::
  le : lo ≤ hi
  len : hi ≤ ks.length
  below : ∀ j y, ks[j]? = some y → j < lo → y.m < m
  above : ∀ j y, ks[j]? = some y → hi ≤ j → m ≤ y.m
theorem asc_lt {ks : List Key} (h : ks.Pairwise fun x y => x.m < y.m) {i j : Nat} {x y : Key} (hi : ks[i]? = some x) (hj : ks[j]? = some y) (hij : i < j) : x.m < y.m := by
  obtain ⟨h1, rfl⟩ := List.getElem?_eq_some_iff.1 hi
  obtain ⟨h2, rfl⟩ := List.getElem?_eq_some_iff.1 hj
  exact List.pairwise_iff_getElem.1 h i j h1 h2 hij
theorem Bnd.up {ks : List Key} {m : Int} {lo hi : Nat} (h : Bnd ks m lo hi) (ha : ks.Pairwise fun x y => x.m < y.m) {md : Nat} (h1 : lo ≤ md) (h2 : md < hi) {y : Key} (hy : ks[md]? = some y) (hlt : y.m < m) : Bnd ks m (md + 1) hi := by
  refine ⟨by omega, h.len, fun j x hx hj => ?_, h.above⟩
  by_cases e : j = md
  · subst e; rw [hx] at hy; cases hy; exact hlt
  · have := asc_lt ha hx hy (by omega); omega
theorem Bnd.down {ks : List Key} {m : Int} {lo hi : Nat} (h : Bnd ks m lo hi) (ha : ks.Pairwise fun x y => x.m < y.m) {md : Nat} (h1 : lo ≤ md) (h2 : md < hi) {y : Key} (hy : ks[md]? = some y) (hge : ¬ y.m < m) : Bnd ks m lo md := by
  refine ⟨h1, by have := h.len; omega, h.below, fun j x hx hj => ?_⟩
  by_cases e : j = md
  · subst e; rw [hx] at hy; cases hy; omega
  · have := asc_lt ha hy hx (by omega); omega
theorem Bnd.none {ks : List Key} {m : Int} {lo : Nat} (h : Bnd ks m lo lo) (ha : ks.Pairwise fun x y => x.m < y.m) (hno : ∀ y, ks[lo]? = some y → y.m ≠ m) : ∀ y ∈ ks, y.m ≠ m := by
  intro y hy
  obtain ⟨j, hj⟩ := List.getElem?_of_mem hy
  by_cases h1 : j < lo
  · have := h.below j y hj h1; omega
  · by_cases h2 : j = lo
    · subst h2; exact hno y hj
    · have hlen : lo < ks.length := by have := (List.getElem?_eq_some_iff.1 hj).1; omega
      have h3 := List.getElem?_eq_getElem hlen
      have h4 := h.above lo _ h3 (Nat.le_refl _)
      have h5 := asc_lt ha h3 hj (by omega)
      omega

set_option maxHeartbeats 8000000 in
set_option maxRecDepth 100000 in
theorem key_any {w : World} {n : Nat} {F : Nat → Int} {b1 b6 S : Nat} {ks : List Key} {ao : Option Addr} {ck : Nat} {v2 v3 v4 : Value} {wr : World} (h : Found w n F b1 b6 S ks ao ck v2 v3 v4 wr) (hn : n ≤ 4096) (x : Int) :
    Calls Try.prog 21 #[.pointer (some ⟨S, 0, none⟩), .int .u32 x] wr fun e w' => Looks ks ao (mk x) e ∧ Dr wr w' := by
  have s6 := h.s6
  have hk := hide h.keys
  have hl : ks.length ≤ 4096 := by have := h.keyed.few; omega
  have ha := hide h.keyed.asc
  clear h
  go_enter Try.func21, Try.ntmps21
  go_wp2_with (go_at_call 26; refine (marked_any _ _).mono ?_; rintro e w' ⟨rfl, rfl⟩)
  go_quiet (fail)
  generalize hmx : mk x = m
  have HMX := hide hmx
  clear hmx
  obtain ⟨wq, hwq⟩ : ∃ wq, wq = w'.drewN nq := ⟨_, rfl⟩
  rw [← hwq]
  have hdr : Dr w' wq := ⟨nq, hwq⟩
  have s6q : wq.cell? ⟨S, 6, none⟩ = some (.slice ao ks.length ck) := cell_on (hdr.below _) s6
  clear hwq s6
  go_wp2
  go_loopw [5, 6] (fun v5 v6 wx => ∃ lo hi : Nat, v5 = .int .i64 lo ∧ v6 = .int .i64 hi ∧ Bnd ks m lo hi ∧ wx = wq) (fun v5 v6 _ => (intOf v6).toNat - (intOf v5).toNat)
  case atStart => exact ⟨0, ks.length, rfl, rfl, ⟨Nat.zero_le _, Nat.le_refl _, fun j y _ hj => absurd hj (by omega), fun j y hy hj => absurd (List.getElem?_eq_some_iff.1 hy).1 (by omega)⟩, by trivial⟩
  case round =>
    obtain ⟨lo, hi, rfl, rfl, hB, rfl⟩ := hrel
    have hle := hB.le
    have hlen := hB.len
    have HB := hide hB
    have HD := hide hdr
    clear hB hdr
    have hdr := HD.out
    have hkq : ∀ (j : Nat) (y : Key), ks[j]? = some y → ∃ g, ao = some ⟨g, 0, none⟩ ∧ wr.cell? ⟨g, j * 4, none⟩ = some (.int .u32 y.m) := by
      intro j y hj
      obtain ⟨g, hg, c, _⟩ := hk.out j y hj
      exact ⟨g, hg, cell_on (hdr.below _) c⟩
    have HK := hide hkq
    clear hk hkq hdr
    by_cases hlt : lo < hi
    · go_upto_region 5 with fail
      obtain ⟨md, hmd⟩ : ∃ md : Nat, (md : Int) = ((lo : Int) + (hi : Int)) / 2 := ⟨(lo + hi) / 2, by omega⟩
      rw [← hmd]
      have h1 : lo ≤ md := by omega
      have h2 : md < hi := by omega
      clear hmd
      obtain ⟨y, hy⟩ : ∃ y, ks[md]? = some y := ⟨_, List.getElem?_eq_getElem (by omega)⟩
      obtain ⟨g, rfl, c0⟩ := HK.out md y hy
      have HY := hide hy
      clear hy
      go_wp2
      · have hl1 : y.m < m := by assumption
        go_roundw
        case rel => exact ⟨md + 1, hi, by go_num, rfl, HB.out.up ha.out h1 h2 HY.out hl1, by trivial⟩
        case measure => simp [intOf]; omega
      · have hl1 : ¬ y.m < m := by omega
        go_roundw
        case rel => exact ⟨lo, md, rfl, rfl, HB.out.down ha.out h1 h2 HY.out hl1, by trivial⟩
        case measure => simp [intOf]; omega
    · obtain rfl : lo = hi := by omega
      by_cases he : lo = ks.length
      · have hno : Looks ks ao m (.returned (.pointer none)) := Or.inr ⟨HB.out.none ha.out (fun y hy => absurd (List.getElem?_eq_some_iff.1 hy).1 (by omega)), rfl⟩
        have HNO := hide hno
        have HE := hide he
        subst he
        clear hno
        go_wp2
        go_ret
        exact ⟨by rw [HMX.out]; exact HNO.out, HD.out⟩
      · obtain ⟨y, hy⟩ : ∃ y, ks[lo]? = some y := ⟨_, List.getElem?_eq_getElem (by omega)⟩
        obtain ⟨g, rfl, c0⟩ := HK.out lo y hy
        have HY := hide hy
        clear hy
        have hlt2 : lo < ks.length := by omega
        have hb1 : ((lo : Int) == (ks.length : Int)) = false := by simp; omega
        by_cases hym : y.m = m
        · have HYM := hide hym
          have hb2 : (y.m != m) = false := by simp [hym]
          clear hym
          go_wp2
          go_ret
          exact ⟨Or.inl ⟨lo, y, g, HY.out, by rw [HMX.out]; exact HYM.out, rfl, rfl⟩, HD.out⟩
        · have hb2 : (y.m != m) = true := by simp [hym]
          have HYM := hide hym
          clear hym
          go_wp2
          go_ret
          exact ⟨Or.inr ⟨by rw [HMX.out]; exact HB.out.none ha.out (fun z hz => by rw [HY.out] at hz; cases hz; exact HYM.out), rfl⟩, HD.out⟩
end Go.Proofs.Qxb6600341a
