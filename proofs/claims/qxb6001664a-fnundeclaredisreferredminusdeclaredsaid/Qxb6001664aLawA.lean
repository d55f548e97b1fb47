import Derived.Test.Qxb6001664aRefd
import Derived.Test.Qxb6001664aZzA
namespace Go.Proofs.Qxb6001664a
open Go.RowKit

theorem makeRefs_len (a b : Option Addr) (l2 cap capb : Nat) (ss tt : List ByteArray) (w : World) (hr : Row w a ss) (hr2 : Row w b tt) (hl : ss.length ≤ 8192) (hl2 : tt.length ≤ 8192) (e : l2 = tt.length) :
    Calls Try.prog 15 #[.slice a ss.length cap, .slice b l2 capb] w fun e w' => ∃ a', e = .returned (.slice a' ss.length ss.length) ∧ Refs w' a' ss ∧ Below w.heap.size w w' := by
  subst e; exact makeRefs_any a b cap capb ss tt w hr hr2 hl hl2

/-- what the law's first loop knows of 'last' -/
def LastIs (ss G : List ByteArray) (k : Nat) (n : Int) : Prop := (k = 0 ∧ n = -1) ∨ ∃ j, k = j + 1 ∧ IdxIs ss (G.getD j ByteArray.empty) n

theorem last_lt {ss G : List ByteArray} {k : Nat} {m n : Int} (hG : G.Pairwise (Ahead ss)) (hm : ∀ s ∈ G, s ∈ ss) (hk : k < G.length) (hl : LastIs ss G k m) (hn : IdxIs ss (G.getD k ByteArray.empty) n) : m < n := by
  rcases hl with ⟨rfl, rfl⟩ | ⟨j, rfl, hj⟩
  · have := idx_nonneg (hm _ (getD_mem hk)) hn
    omega
  · exact pairwise_at hG hk m n hj hn

set_option maxHeartbeats 2000000 in
theorem lawA_any (a0 b0 : Option Addr) (cap0 capb : Nat) (ss tt : List ByteArray) (w : World) (hr : Row w a0 ss) (hr2 : Row w b0 tt) (hn : a0 = none → ss = []) (hn2 : b0 = none → tt = [])
    (hl : ss.length ≤ maxLen) (hl2 : tt.length ≤ maxLen) :
    Calls Try.prog 3 #[.slice a0 ss.length cap0, .slice b0 tt.length capb] w fun e w' => e = .returned (.bool true) ∧ Below w.heap.size w w' := by
  have hl' : ss.length ≤ 9223372036854775807 := by unfold maxLen at hl; exact hl
  have hl2' : tt.length ≤ 9223372036854775807 := by unfold maxLen at hl2; exact hl2
  go_enter Try.func3, Try.ntmps3
  go_wp2_with fail
  refine (zzBytesA_any a0 b0 cap0 capb ss tt _ hr hr2 hl hl2).mono ?_
  rintro e w1 ⟨⟨r, rfl⟩, hw⟩
  subst w1
  cases r
  · go_wp2
    go_ret
    exact ⟨rfl, Below.refl _ _⟩
  rcases Nat.lt_or_ge 4096 ss.length with h1 | h1
  · go_wp2
    go_ret
    exact ⟨rfl, Below.refl _ _⟩
  rcases Nat.lt_or_ge 4096 tt.length with h2 | h2
  · go_wp2
    go_ret
    exact ⟨rfl, Below.refl _ _⟩
  go_wp2_with fail
  refine (bytesOf_any a0 cap0 ss _ hr (by omega)).mono ?_
  rintro e w1 ⟨⟨n1, rfl⟩, hw⟩
  subst w1
  go_wp2_with fail
  refine (bytesOf_any b0 capb tt _ hr2 (by omega)).mono ?_
  rintro e w1 ⟨⟨n2, rfl⟩, hw⟩
  subst w1
  go_wp2_with fail
  · go_ret
    exact ⟨rfl, Below.refl _ _⟩
  refine (clone_any a0 cap0 ss _ hr hn (by omega)).mono ?_
  rintro e w1 ⟨a1, rfl, hra, hb1, hna⟩
  go_wp2_with fail
  refine (clone_any b0 capb tt _ (hr2.below hb1) hn2 (by omega)).mono ?_
  rintro e w2 ⟨b1, rfl, hrb, hb2, hnb⟩
  replace hra := hra.below hb2
  replace hb2 : Below w.heap.size w w2 := hb1.trans (hb2.mono hb1.size)
  clear hna hnb hr hr2 hn hn2 hb1
  go_wp2_with fail
  refine (makeRefs_any a1 b1 _ _ ss tt _ hra hrb (by omega) (by omega)).mono ?_
  rintro e w3 ⟨a2, rfl, hrf, hb3⟩
  replace hra := hra.below hb3
  replace hb3 : Below w.heap.size w w3 := hb2.trans (hb3.mono hb2.size)
  clear hb2 hrb
  go_wp2_with fail
  refine (zzReferred_any a2 _ ss _ hrf (by omega)).mono ?_
  rintro e w4 ⟨v, rfl, hown, hb4⟩
  obtain ⟨g, gcap, rfl, hgc, hrg, hgn⟩ := own_row hown
  replace hra := hra.below hb4
  replace hb4 : Below w.heap.size w w4 := hb3.trans (hb4.mono hb3.size)
  clear hb3 hrf hown
  have hGl := ded_len ss
  have hG1 := hide (ded_ahead ss)
  have hG2 := hide (mem_ded ss)
  have hG3 := hide (ded_ded ss)
  obtain ⟨G, hG⟩ : ∃ G, ded ss = G := ⟨_, rfl⟩
  have HG := hide hG
  rw [hG] at hGl hG1 hG2 hG3 hrg hgn hgc
  simp only [hG]
  clear hG
  go_wp2_with fail
  go_loop [6, 7] (fun l i => ∃ (k : Nat) (n : Int), k ≤ G.length ∧ i = .int .i64 k ∧ l = .int .i64 n ∧ LastIs ss G k n) (fun _ i => G.length - (intOf i).toNat)
  case atStart => exact ⟨0, -1, Nat.zero_le _, rfl, rfl, Or.inl ⟨rfl, rfl⟩⟩
  case round =>
    obtain ⟨k, n, hk, rfl, rfl, hlast⟩ := hrel
    have Hl := hide hlast
    clear hlast
    by_cases hlt : k < G.length
    · obtain ⟨bb, off, s, rfl, hs, hc⟩ := hrg.get hlt
      have HS := hide hs
      clear hs
      go_wp2_with fail
      refine (indexOf_any a1 _ ss s _ hra (by omega)).mono ?_
      rintro e w5 ⟨⟨m, rfl, hm⟩, hw⟩
      subst w5
      have hlt2 : n < m := last_lt hG1.out (fun s hs => (hG2.out s).1 hs) hlt Hl.out (HS.out ▸ hm)
      have Hm := hide hm
      clear hm
      go_wp2
      go_round
      case rel => exact ⟨k + 1, m, by omega, by go_num, rfl, Or.inr ⟨k, rfl, HS.out ▸ Hm.out⟩⟩
      case measure => simp [intOf]; omega
    · go_wp2_with fail
      go_loop [9] (fun i => ∃ (k : Nat), k ≤ ss.length ∧ i = .int .i64 k) (fun i => ss.length - (intOf i).toNat)
      case atStart => exact ⟨0, Nat.zero_le _, rfl⟩
      case round =>
        obtain ⟨k2, hk2, rfl⟩ := hrel
        by_cases hlt2 : k2 < ss.length
        · obtain ⟨bb, off, s, rfl, hs, hc⟩ := hra.get hlt2
          have HS := hide hs
          clear hs
          go_wp2_with fail
          refine (indexOf_any g _ G s _ hrg (by omega)).mono ?_
          rintro e w5 ⟨⟨m, rfl, hm⟩, hw⟩
          subst w5
          have hm0 : 0 ≤ m := idx_nonneg ((hG2.out s).2 (HS.out ▸ getD_mem hlt2)) hm
          clear hm
          go_wp2
          go_round
          case rel => exact ⟨k2 + 1, by omega, by go_num⟩
          case measure => simp [intOf]; omega
        · clear Hl hlt hk
          go_wp2_with fail
          refine (makeRefs_len a1 none 0 _ 0 ss [] _ hra (Or.inl rfl) (by omega) (by simp) rfl).mono ?_
          rintro e w5 ⟨a3, rfl, hrf, hb5⟩
          replace hrg := hrg.below hb5
          replace hb5 : Below w.heap.size w w5 := hb4.trans (hb5.mono hb4.size)
          clear hb4 hra
          go_wp2_with fail
          refine (zzReferred_any a3 _ ss _ hrf (by omega)).mono ?_
          rintro e w6 ⟨v, rfl, hown, hb6⟩
          rw [HG.out] at hown
          obtain ⟨g2, gcap2, rfl, _, hrg2, _⟩ := own_row hown
          replace hrg := hrg.below hb6
          replace hb6 : Below w.heap.size w w6 := hb5.trans (hb6.mono hb5.size)
          clear hb5 hrf hown
          go_wp2_with fail
          refine (equal_same g2 g _ _ _ _ G _ hrg2 hrg (by omega) rfl rfl).mono ?_
          rintro e w7 ⟨rfl, hd7⟩
          replace hrg := hrg.dr hd7
          replace hd7 : Below w.heap.size w w7 := hb6.trans (hd7.below _)
          clear hb6 hrg2
          go_wp2_with fail
          refine (clone_any g _ G _ hrg hgn (by omega)).mono ?_
          rintro e w8 ⟨g3, rfl, hrg3, hb8, _⟩
          replace hrg := hrg.below hb8
          replace hb8 : Below w.heap.size w w8 := hd7.trans (hb8.mono hd7.size)
          clear hd7
          go_wp2_with fail
          refine (makeRefs_len g3 none 0 _ 0 G [] _ hrg3 (Or.inl rfl) (by omega) (by simp) rfl).mono ?_
          rintro e w9 ⟨a4, rfl, hrf, hb9⟩
          replace hrg := hrg.below hb9
          replace hb9 : Below w.heap.size w w9 := hb8.trans (hb9.mono hb8.size)
          clear hb8 hrg3
          go_wp2_with fail
          refine (zzReferred_any a4 _ G _ hrf (by omega)).mono ?_
          rintro e w10 ⟨v, rfl, hown, hb10⟩
          rw [hG3.out] at hown
          obtain ⟨g4, gcap4, rfl, _, hrg4, _⟩ := own_row hown
          replace hrg := hrg.below hb10
          replace hb10 : Below w.heap.size w w10 := hb9.trans (hb10.mono hb9.size)
          clear hb9 hrf hown
          go_wp2_with fail
          refine (equal_same g4 g _ _ _ _ G _ hrg4 hrg (by omega) rfl rfl).mono ?_
          rintro e w11 ⟨rfl, hd11⟩
          replace hd11 : Below w.heap.size w w11 := hb10.trans (hd11.below _)
          clear hb10
          go_wp2
          go_ret
          exact ⟨rfl, hd11⟩
end Go.Proofs.Qxb6001664a
