import Derived.Test.Qxb6600123aBase
namespace Go.Proofs.Qxb6600123a
open Go.RowKit

/-- descending -/
def Desc (l : List Int) : Prop := l.Pairwise (fun a b => b ≤ a)

theorem getD_mid (P : List Int) (y : Int) (R : List Int) : (P ++ y :: R).getD P.length 0 = y := by
  rw [List.getD, List.getElem?_append_right (by omega)]; simp
theorem set_mid (P : List Int) (y z : Int) (R : List Int) : (P ++ y :: R).set P.length z = P ++ z :: R := by
  rw [List.set_append_right _ _ (by omega)]; simp
theorem set_mid' (P : List Int) (y z : Int) (R : List Int) (k : Nat) (h : P.length = k) : (P ++ y :: R).set k z = P ++ z :: R := by
  subst h; exact set_mid P y z R
theorem getD_mid' (P : List Int) (y : Int) (R : List Int) (k : Nat) (h : P.length = k) : (P ++ y :: R).getD k 0 = y := by
  subst h; exact getD_mid P y R

theorem desc_ins {P1 P2 : List Int} {x : Int} (h : Desc (P1 ++ P2)) (h2 : ∀ p ∈ P2, p < x) (h1 : ∀ p ∈ P1, x ≤ p) : Desc (P1 ++ x :: P2) := by
  unfold Desc at *
  rw [List.pairwise_append] at h ⊢
  refine ⟨h.1, List.pairwise_cons.2 ⟨fun p hp => Int.le_of_lt (h2 p hp), h.2.1⟩, fun p hp q hq => ?_⟩
  rcases List.mem_cons.1 hq with rfl | hq
  · exact h1 p hp
  · exact h.2.2 p hp q hq

theorem desc_last {P : List Int} {z x : Int} (h : Desc (P ++ [z])) (hx : x ≤ z) : ∀ p ∈ P ++ [z], x ≤ p := by
  intro p hp
  unfold Desc at h
  rw [List.pairwise_append] at h
  rcases List.mem_append.1 hp with hp | hp
  · have := h.2.2 p hp z (by simp)
    omega
  · have : p = z := by simpa using hp
    omega

theorem grown_trans {a b c : World} {row : Option Nat} (h : a.grownBy b row) (k : b.grownBy c row) : a.grownBy c row :=
  ⟨k.os.trans h.os, k.tape.trans h.tape, k.output.trans h.output, Nat.le_trans h.size k.size, fun i hi hne => (k.block i (Nat.lt_of_lt_of_le hi h.size) hne).trans (h.block i hi hne)⟩

theorem ins_end {w wr : World} {lo B m k : Nat} {P P1 P2 R zs : List Int} {x y : Int} (hm : P1.length = m) (hPP : P = P1 ++ P2) (HP : P.length = k) (HD : Desc P) (hall : ∀ p ∈ P2, p < x) (hge : ∀ p ∈ P1, x ≤ p)
    (HPm : (P ++ x :: R).Perm zs) (hown : OwnI wr lo (some ⟨B, 0, none⟩) (P1 ++ y :: (P2 ++ R))) (hg : w.grownBy wr (some B)) :
    ∃ P' R', P'.length = k + 1 ∧ Desc P' ∧ (P' ++ R').Perm zs ∧ OwnI (wr.setCell ⟨B, m, none⟩ (.int .i64 x)) lo (some ⟨B, 0, none⟩) (P' ++ R') ∧ w.grownBy (wr.setCell ⟨B, m, none⟩ (.int .i64 x)) (some B) := by
  subst hPP
  obtain ⟨h1, h2⟩ := hown.set m x
  rw [set_mid' P1 y x _ m hm] at h1
  refine ⟨P1 ++ x :: P2, R, by simp at HP ⊢; omega, desc_ins HD hall hge, ?_, by simpa using h1, grown_trans hg h2⟩
  refine List.Perm.trans ?_ HPm
  simp only [List.append_assoc, List.cons_append]
  refine List.Perm.append_left P1 ?_
  exact List.perm_middle.symm

theorem ins_step {w wr : World} {lo B m : Nat} {P P1 P2 R : List Int} {x y z : Int} (hm : P1.length = m) (hPP : P = (P1 ++ [z]) ++ P2) (hall : ∀ p ∈ P2, p < x) (hz : z < x)
    (hown : OwnI wr lo (some ⟨B, 0, none⟩) ((P1 ++ [z]) ++ y :: (P2 ++ R))) (hg : w.grownBy wr (some B)) :
    P = P1 ++ (z :: P2) ∧ (∀ p ∈ z :: P2, p < x) ∧ OwnI (wr.setCell ⟨B, m + 1, none⟩ (.int .i64 z)) lo (some ⟨B, 0, none⟩) (P1 ++ z :: ((z :: P2) ++ R)) ∧ w.grownBy (wr.setCell ⟨B, m + 1, none⟩ (.int .i64 z)) (some B) := by
  obtain ⟨h1, h2⟩ := hown.set (m + 1) z
  rw [set_mid' (P1 ++ [z]) y z _ (m + 1) (by simp; omega)] at h1
  refine ⟨by rw [hPP]; simp, fun p hp => ?_, by simpa using h1, grown_trans hg h2⟩
  rcases List.mem_cons.1 hp with rfl | hp
  · exact hz
  · exact hall p hp

theorem snoc_of_len {l : List Int} {m : Nat} (h : l.length = m + 1) : ∃ l' z, l = l' ++ [z] ∧ l'.length = m := by
  rcases List.eq_nil_or_concat l with rfl | ⟨l', z, rfl⟩
  · simp at h
  · exact ⟨l', z, by simp, by simpa using h⟩

set_option maxHeartbeats 1000000 in
theorem sort_any (a : Option Addr) (lo : Nat) (zs : List Int) (w : World) (ho : OwnI w lo a zs) (hl : zs.length ≤ 8192) :
    Calls Try.prog 14 #[.slice a zs.length zs.length] w fun e w' => e = .returned (.tuple #[]) ∧ ∃ zs', zs'.Perm zs ∧ Desc zs' ∧ OwnI w' lo a zs' ∧ w.grownBy w' (a.map (·.block)) := by
  cases zs with
  | nil =>
    go_enter Try.func14, Try.ntmps14
    go_wp2
    refine wp_loop_rounds 1 ?_
    rw [rounds_succ]
    go_wp2
    go_end0
    exact ⟨rfl, [], List.Perm.nil, List.Pairwise.nil, ho, ⟨rfl, rfl, rfl, Nat.le_refl _, fun _ _ _ => rfl⟩⟩
  | cons z0 zs0 =>
    obtain ⟨B, rfl, hlo, hB⟩ := ho.at0 (k := 0) (by simp)
    obtain ⟨n, hn⟩ : ∃ n, (z0 :: zs0).length = n := ⟨_, rfl⟩
    obtain ⟨zs, hzs⟩ : ∃ zs, z0 :: zs0 = zs := ⟨_, rfl⟩
    have hst : ∃ P R, P.length = 1 ∧ Desc P ∧ (P ++ R).Perm zs ∧ OwnI w lo (some ⟨B, 0, none⟩) (P ++ R) := ⟨[z0], zs0, rfl, by simp [Desc], by rw [← hzs]; exact List.Perm.refl _, ho⟩
    have hn1 : 1 ≤ n := by rw [← hn]; simp
    rw [hzs] at hn hl ho ⊢
    rw [hn] at hl ⊢
    have HN := hide hn
    clear hzs hn ho
    go_enter Try.func14, Try.ntmps14
    go_wp2
    go_loopw [2] (fun i wr => ∃ (k : Nat) (P R : List Int), i = .int .i64 k ∧ P.length = k ∧ 1 ≤ k ∧ k ≤ n ∧ Desc P ∧ (P ++ R).Perm zs ∧ OwnI wr lo (some ⟨B, 0, none⟩) (P ++ R) ∧ w.grownBy wr (some B)) (fun i _ => n - (intOf i).toNat)
    case atStart =>
      obtain ⟨P, R, h1, h2, h3, h4⟩ := hst
      exact ⟨1, P, R, rfl, h1, Nat.le_refl _, hn1, h2, h3, h4, ⟨rfl, rfl, rfl, Nat.le_refl _, fun _ _ _ => rfl⟩⟩
    case round =>
      clear hst
      obtain ⟨k, P, R, rfl, hP, hk1, hk2, hD, hPerm, hown, hg⟩ := hrel
      have hlen : P.length + R.length = n := by rw [← HN.out, ← hPerm.length_eq]; simp
      have HP := hide hP
      have HD := hide hD
      have HPm := hide hPerm
      by_cases hlt : k < n
      · cases R with
        | nil => simp at hlen; omega
        | cons x R =>
          have hcx : wr.cell? ⟨B, k, none⟩ = some (.int .i64 x) := by rw [hown.cell (k := k) (by simp; omega), getD_mid' P x R k hP]
          have Hst : Hid (∃ P1 P2 y, P = P1 ++ P2 ∧ P1.length = k ∧ (∀ p ∈ P2, p < x) ∧ OwnI wr lo (some ⟨B, 0, none⟩) (P1 ++ y :: (P2 ++ R))) := ⟨P, [], x, by simp, hP, by simp, hown⟩
          clear hP hD hPerm hlen hown
          go_wp2
          go_loopw [4] (fun j wr => ∃ (m : Nat) (P1 P2 : List Int) (y : Int), m ≤ k ∧ j = .int .i64 m ∧ P1.length = m ∧ P = P1 ++ P2 ∧ (∀ p ∈ P2, p < x) ∧ OwnI wr lo (some ⟨B, 0, none⟩) (P1 ++ y :: (P2 ++ R)) ∧ w.grownBy wr (some B)) (fun j _ => (intOf j).toNat)
          case atStart =>
            obtain ⟨P1, P2, y, h1, h2, h3, h4⟩ := Hst.out
            exact ⟨k, P1, P2, y, Nat.le_refl _, rfl, h2, h1, h3, h4, hg⟩
          case round =>
            clear Hst hg hcx
            obtain ⟨m, P1, P2, y, hmk, rfl, hm, hPP, hall, hown, hg⟩ := hrel
            have hcm : wr.cell? ⟨B, m, none⟩ = some (.int .i64 y) := by rw [hown.cell (k := m) (by simp; omega), getD_mid' P1 y _ m hm]
            have hfm := hown.frozen m
            cases m with
            | zero =>
              have hge : ∀ p ∈ P1, x ≤ p := by
                have : P1 = [] := List.length_eq_zero_iff.1 hm
                subst this; simp
              have HE := hide (ins_end hm hPP HP.out HD.out hall hge HPm.out hown hg)
              clear hm hPP hall hown hg hge
              go_wp2
              go_roundw
              case rel =>
                obtain ⟨P', R', e1, e2, e3, e4, e5⟩ := HE.out
                exact ⟨k + 1, P', R', by go_num, e1, by omega, by omega, e2, e3, e4, e5⟩
              case measure => simp [intOf]; omega
            | succ m =>
              obtain ⟨P1, z, rfl, hm'⟩ := snoc_of_len hm
              have hcz : wr.cell? ⟨B, m, none⟩ = some (.int .i64 z) := by
                rw [hown.cell (k := m) (by simp; omega), List.append_assoc, List.singleton_append, getD_mid' P1 z _ m hm']
              have hfz := hown.frozen m
              by_cases hz : z < x
              · have HE := hide (ins_step hm' hPP hall hz hown hg)
                clear hm hPP hall hown hg
                go_wp2
                go_roundw
                case rel =>
                  obtain ⟨e1, e2, e3, e4⟩ := HE.out
                  exact ⟨m, P1, z :: P2, z, by omega, by go_num, hm', e1, e2, e3, e4⟩
                case measure => simp [intOf]
              · have hge : ∀ p ∈ P1 ++ [z], x ≤ p := by
                  have hD1 : Desc (P1 ++ [z]) := by
                    have := HD.out
                    rw [hPP] at this
                    exact (List.pairwise_append.1 this).1
                  exact desc_last hD1 (by omega)
                have HE := hide (ins_end hm hPP HP.out HD.out hall hge HPm.out hown hg)
                clear hm hPP hall hown hg hge
                go_wp2
                go_roundw
                case rel =>
                  obtain ⟨P', R', e1, e2, e3, e4, e5⟩ := HE.out
                  exact ⟨k + 1, P', R', by go_num, e1, by omega, by omega, e2, e3, e4, e5⟩
                case measure => simp [intOf]; omega
      · have hR : R = [] := by
          cases R with
          | nil => rfl
          | cons x R => simp at hlen; omega
        subst hR
        go_wp2
        go_end0
        rw [List.append_nil] at hown hPerm
        exact ⟨rfl, P, hPerm, hD, hown, hg⟩

/-- strictly descending, as far as the first k -/
def SDesc (l : List Int) : Prop := l.Pairwise (fun a b => b < a)
theorem sdesc_snoc {l : List Int} {z : Int} (h : SDesc l) (hz : ∀ l' y, l = l' ++ [y] → z < y) : SDesc (l ++ [z]) := by
  unfold SDesc at *
  rw [List.pairwise_append]
  refine ⟨h, by simp, fun p hp q hq => ?_⟩
  have : q = z := by simpa using hq
  subst this
  rcases List.eq_nil_or_concat l with rfl | ⟨l', y, rfl⟩
  · simp at hp
  · have hy := hz l' y (by simp)
    rw [List.concat_eq_append] at h hp
    rcases List.mem_append.1 hp with hp | hp
    · have := (List.pairwise_append.1 h).2.2 p hp y (by simp)
      omega
    · have : p = y := by simpa using hp
      omega
/-- what comes back -/
def StrictRet (zs : List Int) (e : Ending) : Prop := ∃ r, e = .returned (.bool r) ∧ (r = true → SDesc zs)

set_option maxHeartbeats 1000000 in
theorem strict_any (a : Option Addr) (zs : List Int) (w : World) (hr : Row w a zs) (hl : zs.length ≤ 8192) :
    Calls Try.prog 15 #[.slice a zs.length zs.length] w fun e w' => StrictRet zs e ∧ Dr w w' := by
  go_enter Try.func15, Try.ntmps15
  go_wp2
  go_loopw [3] (fun i wr => ∃ k : Nat, 1 ≤ k ∧ (k ≤ zs.length ∨ k = 1) ∧ i = .int .i64 k ∧ SDesc (zs.take k) ∧ Dr w wr) (fun i _ => zs.length - (intOf i).toNat)
  case atStart =>
    refine ⟨1, Nat.le_refl _, Or.inr rfl, rfl, ?_, Dr.refl _⟩
    cases zs <;> simp [SDesc]
  case round =>
    obtain ⟨k, hk1, hk2, rfl, hS, hdr⟩ := hrel
    have HS := hide hS
    clear hS
    by_cases hlt : k < zs.length
    · cases k with
      | zero => omega
      | succ k =>
        have hrr : Row wr a zs := by
          obtain ⟨n, rfl⟩ := hdr
          rcases hr with rfl | ⟨b, off, rfl, h⟩
          · exact Or.inl rfl
          · exact Or.inr ⟨b, off, rfl, fun i hi => by simpa using h i hi⟩
        obtain ⟨b, off, z, rfl, hz, hc⟩ := hrr.get hlt
        obtain ⟨b', off', y, he, hy, hc'⟩ := hrr.get (k := k) (by omega)
        cases he
        have HZ := hide hz
        have HY := hide hy
        clear hz hy hrr
        go_wp2
        go_quiet (fail)
        go_wp2
        · go_ret
          exact ⟨⟨false, rfl, fun h => by cases h⟩, hdr.on _⟩
        · have hzy : z < y := by assumption
          go_roundw
          case rel =>
            refine ⟨k + 1 + 1, by omega, Or.inl (by omega), by go_num, ?_, hdr.on _⟩
            rw [take_snoc zs (k + 1) hlt, ← HZ.out]
            refine sdesc_snoc HS.out (fun l' y' e => ?_)
            rw [take_snoc zs k (by omega), ← HY.out] at e
            have := List.append_inj_right' e (by simp)
            simp at this
            omega
          case measure => simp [intOf]; omega
    · go_wp2
      go_ret
      refine ⟨⟨true, rfl, fun _ => ?_⟩, hdr⟩
      have := HS.out
      rwa [List.take_of_length_le (by omega)] at this
end Go.Proofs.Qxb6600123a
