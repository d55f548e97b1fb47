import Derived.Test.Qxb6600123aOver
import Derived.Test.Qxb6600123aUnits
import Derived.Deep.WholeRow
namespace Go.Proofs.Qxb6600123a
open Go.RowKit

theorem Try.size23 : (Try.prog.info? 23).map (·.size) = some 64 := by kernel_rfl

theorem oneU (us : List Int) : (cellsOfU us).all (·.oneCell') = true := by
  rw [Array.all_eq_true_iff_forall_mem]
  intro v hv
  obtain ⟨z, _, rfl⟩ := List.mem_map.1 (List.mem_toArray.1 hv)
  rfl

theorem strict_len (a : Option Addr) (n : Nat) (zs : List Int) (w : World) (hr : Row w a zs) (hl : zs.length ≤ 8192) (e : n = zs.length) :
    Calls Try.prog 15 #[.slice a n n] w fun e w' => StrictRet zs e ∧ Dr w w' := by
  subst e; exact strict_any a zs w hr hl
theorem Dr.below {w w' : World} (h : Dr w w') (B : Nat) : Below B w w' := by
  have := h.grown none
  obtain ⟨n, rfl⟩ := h
  exact ⟨this.os, this.tape, this.output, this.size, fun k _ => by
    induction n with
    | zero => rfl
    | succ n ih => exact ih (Dr.grown ⟨n, rfl⟩ none)⟩

set_option maxRecDepth 100000 in
set_option maxHeartbeats 400000 in
theorem over_nil (U : Nat) (us : List Int) (room : Int) (w : World) (hr0 : 0 ≤ room) :
    Calls Try.prog 39 #[.slice none 0 0, .slice (some ⟨U, 0, none⟩) 64 64, .int .i64 room] w fun e w' => OverRet (cost us) room [] e ∧ w' = w := by
  go_enter Try.func39, Try.ntmps39
  go_wp2
  refine wp_loop_rounds 1 ?_
  rw [rounds_succ]
  go_wp2
  go_ret2
  exact ⟨⟨0, false, rfl, scan_miss (by simpa [sumC] using hr0)⟩, rfl⟩

set_option maxRecDepth 100000 in
theorem zzOver_any (a : Option Addr) (lo U : Nat) (zs us : List Int) (room : Int) (w : World) (ho : OwnI w lo a zs) (hU : Units w U us) (hne : ∀ B, a = some ⟨B, 0, none⟩ → U ≠ B) (hn0 : zs.length ≤ 4096) (hap : zs.Pairwise (· ≠ ·)) (hr0 : 0 ≤ room) (hr1 : room ≤ 9223372036854775807) :
    Calls Try.prog 16 #[.slice a zs.length zs.length, .slice (some ⟨U, 0, none⟩) 64 64, .int .i64 room] w fun e w' => OverRet (cost us) room zs e ∧ w.grownBy w' (a.map (·.block)) := by
  rcases ho.look with ⟨rfl, rfl⟩ | ⟨B, rfl, _⟩
  · go_enter Try.func16, Try.ntmps16
    go_wp2_with fail
    refine (over_nil U us room w hr0).mono ?_
    rintro e w1 ⟨⟨key, ok, rfl, hA⟩, hw⟩
    subst w1
    have HA := hide hA
    clear hA
    go_wp2
    go_ret2
    exact ⟨⟨key, ok, rfl, HA.out⟩, ⟨rfl, rfl, rfl, Nat.le_refl _, fun _ _ _ => rfl⟩⟩
  · go_enter Try.func16, Try.ntmps16
    go_wp2_with fail
    refine (over_any B U lo _ _ zs us room w ⟨[], [], rfl, by simpa using ho⟩ hU (hne B rfl) rfl hn0 (Nat.le_refl _) hap hr0 hr1).mono ?_
    rintro e w1 ⟨⟨key, ok, rfl, hA⟩, hg⟩
    have HA := hide hA
    clear hA
    go_wp2
    go_ret2
    exact ⟨⟨key, ok, rfl, HA.out⟩, hg⟩

set_option maxHeartbeats 4000000 in
set_option maxRecDepth 100000 in
theorem main_any (a0 : Option Addr) (cap0 : Nat) (zs us : List Int) (room : Int) (w : World) (hr : Row w a0 zs) (hn : a0 = none → zs = []) (hl : zs.length ≤ maxLen) (hu : us.length = 64) (hrm : room ≤ 9223372036854775807) :
    Calls Try.prog 3 #[.slice a0 zs.length cap0, .agg (cellsOfU us), .int .i64 room] w fun e w' => e = .returned (.bool true) ∧ Below w.heap.size w w' := by
  have hl' : zs.length ≤ 9223372036854775807 := by unfold maxLen at hl; exact hl
  have hi : (Try.prog.info? 23).map (·.size) = some (cellsOfU us).size := by rw [cellsOfU_size, hu]; exact Try.size23
  have Hi := hide hi
  have Hu := hide hu
  clear hi hu
  obtain ⟨W0, hW0⟩ : ∃ W0, W0 = w.alloc (.cells (cellsOfU us) 23) := ⟨_, rfl⟩
  have hb0 : Below w.heap.size w W0 := by rw [hW0]; exact grew _ _
  have hblk : Hid (W0.heap[w.heap.size]? = some (.cells (cellsOfU us) 23 (0, 0))) := by rw [hW0]; exact heap_alloc_new w _
  have HW0 := hide hW0
  clear hW0
  go_enter Try.func3, Try.ntmps3
  go_wp2_with (first | (refine wpList_load_row rfl 23 _ rfl w.heap.size rfl 23 (cellsOfU us) (0, 0) _ (heap_alloc_new w _) Try.underlying23 rfl Hi.out ?_))
  rw [← HW0.out]
  clear HW0
  refine (zzBytes_any a0 _ cap0 us room W0 hl).mono ?_
  rintro e w1 ⟨⟨r, rfl⟩, hb1⟩
  have hblk1 : Hid (w1.heap[w.heap.size]? = some (.cells (cellsOfU us) 23 (0, 0))) := (hb1.block _ (Array.getElem?_eq_some_iff.1 hblk.out).1).trans hblk.out
  replace hb1 : Below w.heap.size w w1 := hb0.trans (hb1.mono hb0.size)
  clear hblk hb0
  cases r
  · go_wp2
    go_ret
    exact ⟨rfl, hb1⟩
  rcases Nat.lt_or_ge 4096 zs.length with h1 | h1
  · go_wp2
    go_ret
    exact ⟨rfl, hb1⟩
  by_cases h2 : room < 0
  · go_wp2
    go_ret
    exact ⟨rfl, hb1⟩
  go_wp2_with (first | (refine wpList_load_row rfl 23 _ rfl w.heap.size rfl 23 (cellsOfU us) (0, 0) _ hblk1.out Try.underlying23 rfl Hi.out ?_))
  refine (units_any us w1 Hu.out).mono ?_
  rintro e w2 ⟨⟨r, rfl, hun⟩, hb2⟩
  have hblk2 : Hid (w2.heap[w.heap.size]? = some (.cells (cellsOfU us) 23 (0, 0))) := (hb2.block _ (Array.getElem?_eq_some_iff.1 hblk1.out).1).trans hblk1.out
  replace hb2 : Below w.heap.size w w2 := hb1.trans (hb2.mono hb1.size)
  clear hblk1 hb1
  cases r
  · go_wp2
    go_ret
    exact ⟨rfl, hb2⟩
  have Hun := hide (hun rfl)
  clear hun
  go_wp2_with fail
  refine (clone_any a0 cap0 zs _ (hr.below hb2) hn (by omega)).mono ?_
  rintro e w3 ⟨a1, rfl, ho1, hb3⟩
  have hblk3 : Hid (w3.heap[w.heap.size]? = some (.cells (cellsOfU us) 23 (0, 0))) := (hb3.block _ (Array.getElem?_eq_some_iff.1 hblk2.out).1).trans hblk2.out
  have hlo3 := hb2.size
  replace hb3 : Below w.heap.size w w3 := hb2.trans (hb3.mono hb2.size)
  have hB1 : ∀ B, a1 = some ⟨B, 0, none⟩ → B < w3.heap.size := by
    intro B e
    rcases ho1.look with ⟨h, _⟩ | ⟨B', h, _, h'⟩
    · rw [h] at e; cases e
    · rw [h] at e; cases e; exact h'
  have hU3 : w.heap.size < w3.heap.size := (Array.getElem?_eq_some_iff.1 hblk3.out).1
  have HB1 := hide hB1
  clear hblk2 hr hn hB1
  have hn1 : a1 = none → zs = [] := by
    rcases ho1.look with ⟨_, h⟩ | ⟨B, rfl, _⟩
    · exact fun _ => h
    · intro h; cases h
  go_wp2_with fail
  refine (clone_any a1 _ zs _ ho1.row hn1 (by omega)).mono ?_
  rintro e w4 ⟨a2, rfl, ho2, hb4⟩
  have hblk4 : Hid (w4.heap[w.heap.size]? = some (.cells (cellsOfU us) 23 (0, 0))) := (hb4.block _ (Array.getElem?_eq_some_iff.1 hblk3.out).1).trans hblk3.out
  replace ho1 := ho1.below hb4
  have hlo4 := hb3.size
  have hw3 := hb4.size
  replace hb4 : Below w.heap.size w w4 := hb3.trans (hb4.mono hb3.size)
  clear hblk3 hb3
  go_wp2_with fail
  refine (sort_any a2 _ zs _ ho2 (by omega)).mono ?_
  rintro e w5 ⟨rfl, os, hperm, hdesc, ho5, hg5⟩
  have hlo5 : ∀ B, a2 = some ⟨B, 0, none⟩ → w3.heap.size ≤ B := by
    intro B e
    rcases ho5.look with ⟨h, _⟩ | ⟨B', h, h', _⟩
    · rw [h] at e; cases e
    · rw [h] at e; cases e; exact h'
  have hrow5 : ∀ j, (a2.map (·.block)) = some j → w3.heap.size ≤ j := by
    intro j hj
    rcases ho5.look with ⟨h, _⟩ | ⟨B', h, h', _⟩
    · rw [h] at hj; cases hj
    · rw [h] at hj; cases hj; exact h'
  replace ho1 : OwnI w5 w2.heap.size a1 zs := ho1.kept hg5 (fun B e h => by have := HB1.out B e; have := hrow5 B h; omega)
  have hblk5 : Hid (w5.heap[w.heap.size]? = some (.cells (cellsOfU us) 23 (0, 0))) := (hg5.block _ (Array.getElem?_eq_some_iff.1 hblk4.out).1 (fun e => by have := hrow5 _ e.symm; omega)).trans hblk4.out
  have hb5 : Below w.heap.size w w5 := hb4.grown hg5 hb4.size (fun j hj => by have := hrow5 j hj; omega)
  have hsz5 : w3.heap.size ≤ w5.heap.size := Nat.le_trans hw3 hg5.size
  have hosl : os.length = zs.length := hperm.length_eq
  have Hosl := hide hosl
  have Hperm := hide hperm
  have Hrow5 := hide hrow5
  have Hlo5 := hide hlo5
  clear hblk4 hosl hperm hrow5 hlo5 ho2 hb4 hg5 hdesc
  go_wp2_with fail
  refine (strict_len a2 _ os _ ho5.row (by rw [Hosl.out]; omega) Hosl.out.symm).mono ?_
  rintro e w6 ⟨⟨r, rfl, hS⟩, hd6⟩
  replace ho1 := ho1.dr hd6
  replace ho5 := ho5.dr hd6
  have hblk6 : Hid (w6.heap[w.heap.size]? = some (.cells (cellsOfU us) 23 (0, 0))) := ((hd6.below (w.heap.size + 1)).block _ (by omega)).trans hblk5.out
  have hb6 : Below w.heap.size w w6 := hb5.trans (hd6.below _)
  have hsz6 : w3.heap.size ≤ w6.heap.size := Nat.le_trans hsz5 (hd6.below 0).size
  clear hblk5 hb5 hd6
  cases r
  · go_wp2
    go_ret
    exact ⟨rfl, hb6⟩
  have HS := hide (hS rfl)
  clear hS
  go_wp2_with fail
  refine (clone_any a1 _ zs _ ho1.row hn1 (by omega)).mono ?_
  rintro e w7 ⟨a3, rfl, ho3, hb7⟩
  have hblk7 : Hid (w7.heap[w.heap.size]? = some (.cells (cellsOfU us) 23 (0, 0))) := (hb7.block _ (Array.getElem?_eq_some_iff.1 hblk6.out).1).trans hblk6.out
  have ho6 := ho5
  replace ho5 := ho5.below hb7
  have hlo7 := hb6.size
  replace hb7 : Below w.heap.size w w7 := hb6.trans (hb7.mono hb6.size)
  clear hblk6 hb6 ho1 hn1
  go_wp2_with (first | (refine wpList_load_row rfl 23 _ rfl w.heap.size rfl 23 (cellsOfU us) (0, 0) _ hblk7.out Try.underlying23 rfl Hi.out ?_) | (refine wpList_store_row rfl 23 _ _ rfl w7.heap.size (cellsOfU us) rfl rfl 23 _ (heap_alloc_new w7 _) Hi.out (by rw [cellsOfU_size, Hu.out]; rfl) (oneU us) ?_; rw [World.setRow_alloc_new]))
  have hU7 : Units (w7.alloc (.cells (cellsOfU us) 23)) w7.heap.size us :=
    ⟨Hu.out, fun j hj => row_cellU (heap_alloc_new w7 _) (by rw [Hu.out]; exact hj), fun j => by
      by_cases hj : j < 64
      · exact (Hun.out j hj).1
      · simp [List.getD, show us.length ≤ j from by rw [Hu.out]; omega], fun j => by
      by_cases hj : j < 64
      · exact (Hun.out j hj).2
      · simp [List.getD, show us.length ≤ j from by rw [Hu.out]; omega]⟩
  have ho3' : OwnI (w7.alloc (.cells (cellsOfU us) 23)) w6.heap.size a3 zs := ho3.below (grew _ _)
  have ho5' : OwnI (w7.alloc (.cells (cellsOfU us) 23)) w3.heap.size a2 os := ho5.below (grew _ _)
  have hb7' : Below w.heap.size w (w7.alloc (.cells (cellsOfU us) 23)) := hb7.alloc hb7.size _
  have hne3 : ∀ B, a3 = some ⟨B, 0, none⟩ → B < w7.heap.size ∧ w6.heap.size ≤ B := by
    intro B e
    rcases ho3.look with ⟨h, _⟩ | ⟨B', h, h', h''⟩
    · rw [h] at e; cases e
    · rw [h] at e; cases e; exact ⟨h'', h'⟩
  have hne5 : ∀ B, a2 = some ⟨B, 0, none⟩ → B < w6.heap.size := by
    intro B e
    rcases ho6.look with ⟨h, _⟩ | ⟨B', h, h', h''⟩
    · rw [h] at e; cases e
    · rw [h] at e; cases e; exact h''
  have hapz : zs.Pairwise (· ≠ ·) := by
    have h : os.Pairwise (· ≠ ·) := by
      have hp := HS.out
      unfold SDesc at hp
      rw [List.pairwise_iff_getElem] at hp ⊢
      intro i j hi hj hij e
      have := hp i j hi hj hij
      omega
    exact (Hperm.out.pairwise_iff (fun {a b} (h : a ≠ b) => h.symm)).1 h
  refine (zzOver_any a3 _ w7.heap.size zs us room _ ho3' hU7 (fun B e h => by have := (hne3 B e).1; omega) h1 hapz (by omega) hrm).mono ?_
  rintro e w8 ⟨⟨key, ok, rfl, hAns⟩, hg8⟩
  have hrow8 : ∀ j, (a3.map (·.block)) = some j → w6.heap.size ≤ j ∧ j < w7.heap.size := by
    intro j hj
    rcases ho3.look with ⟨h, _⟩ | ⟨B', h, h', h''⟩
    · rw [h] at hj; cases hj
    · rw [h] at hj; cases hj; exact ⟨h', h''⟩
  have ho8 : OwnI w8 w3.heap.size a2 os := ho5'.kept hg8 (fun B e h => by have := hne5 B e; have := hrow8 B h; omega)
  have hU8 : Units w8 w7.heap.size us := ⟨hU7.len, fun j hj => by
    have hc := hU7.cell j hj
    rw [World.cell?_of_block (hg8.block w7.heap.size (block_lt_of_cell hc) (fun e => by have := hrow8 _ e.symm; omega))]
    exact hc, hU7.pos, hU7.top⟩
  have hb8 : Below w.heap.size w w8 := hb7'.grown hg8 hb7'.size (fun j hj => by have := hrow8 j hj; omega)
  have HAns := hide (ans_perm Hperm.out.symm hAns)
  have Hone := hide (fun (k2 : Int) (o2 : Bool) (h : Ans (cost us) room os k2 o2) => ans_one (fun k => hU7.pos _) HAns.out h)
  have hor := ho8.row
  clear hAns hg8 hrow8 hapz hne5 hne3 hb7' ho5' ho3' ho3 hU7 ho5 hblk7 hb7 ho8 HAns
  generalize w7.heap.size = U at *
  have h63 := i64_and63
  go_wp2_with fail
  go_loop [12, 13, 14, 15] (fun kv ov sv iv => ∃ k : Nat, k ≤ zs.length ∧ kv = .int .i64 0 ∧ ov = .bool false ∧ iv = .int .i64 k ∧ sv = .int .i64 (sumC (cost us) (os.take k)) ∧ sumC (cost us) (os.take k) ≤ room) (fun _ _ _ iv => zs.length - (intOf iv).toNat)
  case atStart => exact ⟨0, Nat.zero_le _, rfl, rfl, rfl, rfl, by simpa [sumC] using h2⟩
  case round =>
    obtain ⟨k, hk, rfl, rfl, rfl, rfl, hsum⟩ := hrel
    have hosl := Hosl.out
    have hs0 := sumC_nonneg (c := cost us) (fun k => hU8.pos _) (os.take k)
    have hs1 := sumC_le (c := cost us) (fun k => hU8.top _) (os.take k)
    have hs2 : (os.take k).length ≤ k := List.length_take_le _ _
    by_cases hltz : k < zs.length
    · have hlt : k < os.length := by rw [hosl]; exact hltz
      obtain ⟨b, off, z, rfl, hz, hc⟩ := hor.get hlt
      have c2 := hU8.cost z
      have hb := And.intro (hU8.pos (z % 64).toNat) (hU8.top (z % 64).toNat)
      have hhit : room < sumC (cost us) (os.take k) + cost us z → Ans (cost us) room os z true := fun h => by
        rw [hz]
        exact scan_hit HS.out hlt hsum (by rw [← hz]; exact h)
      have hst := sumC_take (c := cost us) (l := os) (k := k) hlt
      rw [← hz] at hst
      change 0 ≤ cost us z ∧ cost us z ≤ 262144 at hb
      have Hst := hide hst
      have Hhit := hide hhit
      clear hst hhit hz hosl hlt
      obtain ⟨S, hS⟩ : ∃ S, sumC (cost us) (os.take k) = S := ⟨_, rfl⟩
      obtain ⟨ck, hck⟩ : ∃ ck, cost us z = ck := ⟨_, rfl⟩
      rw [hS] at hs0 hs1 hsum Hst Hhit
      rw [hck] at c2 hb Hst Hhit
      simp only [hS]
      clear hS hck
      by_cases hov : room < S + ck
      · obtain ⟨rfl, rfl⟩ := Hone.out z true (Hhit.out hov)
        go_wp2
        go_ret
        exact ⟨rfl, hb8⟩
      · go_wp2
        go_round
        case rel => exact ⟨k + 1, by omega, rfl, rfl, by go_num, val_int Hst.out.symm, by rw [Hst.out]; omega⟩
        case measure => simp [intOf]; omega
    · obtain ⟨rfl, rfl⟩ := Hone.out 0 false (scan_miss (by rw [List.take_of_length_le (by omega)] at hsum; exact hsum))
      clear hosl
      go_wp2
      go_ret
      exact ⟨rfl, hb8⟩
end Go.Proofs.Qxb6600123a
