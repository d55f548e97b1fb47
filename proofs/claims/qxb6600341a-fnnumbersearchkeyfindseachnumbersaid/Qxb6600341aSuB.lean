import Derived.Test.Qxb6600341aSo
import Derived.Sort.WalkB3
namespace Go.Proofs.Qxb6600341a
open Go.RowKit Go.Sort

abbrev encU : Int → Value := fun x => Value.int .u64 x

set_option maxHeartbeats 1600000 in
set_option maxRecDepth 1000000 in
theorem Su.reverseRange_int (blk off cap : Nat) (d : Array Int) (a b : Nat) (w : World) (hH : Holds encU w blk off d) (hab : a ≤ b) (hb : b ≤ d.size) (hsz : d.size < 4611686018427387904) :
    Calls Try.prog 39 #[.slice (some ⟨blk, off, none⟩) d.size cap, .int .i64 a, .int .i64 b] w fun e w' => e = .returned (.tuple #[]) ∧ ∃ n, w' = putRow encU (Sort.ahead w n) blk off (reverseRange d a b) := by
  go_enter Try.func39, Try.ntmps39
  go_wp2
  go_loopg [6, 7] (b - a) (fun k s6 s7 wr => ∃ (i jn : Nat) (jz : Int) (dk : Array Int) (n : Nat), s6 = .int .i64 i ∧ s7 = .int .i64 jz ∧ ((i : Int) < jz → jz = jn ∧ jn < d.size) ∧ (¬ (i : Int) < jz → ¬ i < jn) ∧ jn - i ≤ k ∧
    dk.size = d.size ∧ wr = putRow encU (Sort.ahead w n) blk off dk ∧ reverseLoop i jn dk = reverseLoop a (b - 1) d)
  case atStart => exact ⟨a, b - 1, (b : Int) - 1, d, 0, rfl, rfl, fun h => ⟨by omega, by omega⟩, fun h => by omega, by omega, rfl, (putRow_self encU w blk off d hH).symm, rfl⟩
  case round =>
    obtain ⟨i, jn, jz, dk, n, rfl, rfl, h1, h2, hk, hds, hwr, heq⟩ := hrel
    by_cases hlt : (i : Int) < jz
    · obtain ⟨rfl, hjn⟩ := h1 hlt
      have hij : i < jn := by omega
      have hHk : Holds encU wr blk off dk := by rw [hwr]; exact holds_putRow encU _ blk off d dk (holds_ahead encU w n blk off d hH) hds
      obtain ⟨ci, fi⟩ := hHk i (by omega)
      obtain ⟨cj, fj⟩ := hHk jn (by omega)
      have A : Aside (wr = putRow encU (Sort.ahead w n) blk off dk) := hwr
      clear hwr hHk hH h1 h2
      go_wp2_with fail
      go_region
      go_wp2
      go_roundg (jn - 1 - (i + 1))
      case measure => omega
      case rel =>
        rw [reverseLoop, if_pos hij] at heq
        exact ⟨i + 1, jn - 1, (jn : Int) - 1, swp dk i jn, n + 1, by simp, rfl, fun h => ⟨by omega, by omega⟩, fun h => by omega, Nat.le_refl _, by rw [size_swp]; exact hds,
          swap_world encU (by omega) (by omega) A.out (by simp [encU, getElem!_pos, show jn < dk.size by omega]) rfl, heq⟩
    · have hnot := h2 hlt
      go_wp2
      go_end0
      refine ⟨rfl, n, ?_⟩
      rw [reverseLoop, if_neg hnot] at heq
      rw [reverseRange, ← heq]

set_option maxHeartbeats 3200000 in
set_option maxRecDepth 1000000 in
theorem Su.siftDown_int (blk off len cap : Nat) (d : Array Int) (hlen : d.size = len) (lo hi first : Nat) (w : World) (hH : Holds encU w blk off d) (hlo : lo ≤ hi) (hb : first + hi ≤ d.size) (hsz : d.size < 4611686018427387904) :
    Calls Try.prog 46 #[.slice (some ⟨blk, off, none⟩) len cap, .int .i64 lo, .int .i64 hi, .int .i64 first] w fun e w' => e = .returned (.tuple #[]) ∧ ∃ n, w' = putRow encU (Sort.ahead w n) blk off (siftDown ltInt hi first lo d) := by
  subst hlen
  go_enter Try.func46, Try.ntmps46
  go_wp2
  go_loopg [8] (hi - lo) (fun k s8 wr => ∃ (root : Nat) (dk : Array Int) (n : Nat), s8 = .int .i64 root ∧ root ≤ hi ∧ hi - root ≤ k ∧ dk.size = d.size ∧ wr = putRow encU (Sort.ahead w n) blk off dk ∧ siftDown ltInt hi first root dk = siftDown ltInt hi first lo d)
  case atStart => exact ⟨lo, d, 0, rfl, hlo, Nat.le_refl _, rfl, (putRow_self encU w blk off d hH).symm, rfl⟩
  case round =>
    obtain ⟨root, dk, n, rfl, hr, hk, hds, hwr, heq⟩ := hrel
    have hHk : Holds encU wr blk off dk := by rw [hwr]; exact holds_putRow encU _ blk off d dk (holds_ahead encU w n blk off d hH) hds
    have hcw : ∀ t, t < d.size → wr.cell? ⟨blk, off + t, none⟩ = some (.int .u64 dk[t]!) := fun t ht => (hHk t (by omega)).1
    have hfw : ∀ t, t < d.size → wr.frozen? ⟨blk, off + t, none⟩ = false := fun t ht => (hHk t (by omega)).2
    have A : Aside (wr = putRow encU (Sort.ahead w n) blk off dk) := hwr
    clear hwr hH hHk
    by_cases h0 : hi ≤ 2 * root + 1
    · -- no child: the loop is left
      have h0z : (hi : Int) ≤ 2 * (root : Int) + 1 := by omega
      go_wp2
      go_end0
      refine ⟨rfl, n, ?_⟩
      rw [A.out, ← heq, sd_end ltInt dk h0]
    · -- (the tests, AS THE WALK SPELLS THEM: over Int: a guard that is not decided stops the quiet walk)
      have h0z : ¬ ((hi : Int) ≤ 2 * (root : Int) + 1) := by omega
      by_cases h1 : 2 * root + 2 < hi
      · have h1z : 2 * (root : Int) + 1 + 1 < (hi : Int) := by omega
        go_wp2_with fail
        go_big_quiet (first | (go_at_call 41; refine Calls.quiet_of_same (less_any _ _ _)))
        go_wp2_with fail
        · -- THE RIGHT CHILD IS THE GREATER
          have hL : ltInt dk[first + 2 * root + 1]! dk[first + 2 * root + 2]! = true := by assumption
          revert nq; intro nq1      -- (the next quiet region brings an 'nq' of its own)
          have hcw2 : ∀ t, t < d.size → (wr.drewN nq1).cell? ⟨blk, off + t, none⟩ = some (.int .u64 dk[t]!) := hcw
          have hfw2 : ∀ t, t < d.size → (wr.drewN nq1).frozen? ⟨blk, off + t, none⟩ = false := hfw
          have A2 : Aside (wr.drewN nq1 = putRow encU (Sort.ahead w (n + nq1)) blk off dk) := drewN_world encU A.out nq1
          clear hcw hfw A
          generalize wr.drewN nq1 = wr2 at hcw2 hfw2 A2 ⊢
          go_big_quiet (first | (go_at_call 41; refine Calls.quiet_of_same (less_any _ _ _)))
          go_wp2_with fail
          · -- the hole is not less than the greater child: return
            have hS : ltInt dk[first + root]! dk[first + 2 * root + 2]! = false := by
              have : (!ltInt dk[first + root]! dk[first + 2 * root + 2]!) = true := by assumption
              simpa using this
            (try simp only [Exit.inBlock, Exit.then]); refine bodyPost_ret (results_none rfl _ _ _) rfl ?_      -- (an explicit 'return' of a function without results)
            refine ⟨rfl, n + nq1 + nq, ?_⟩
            rw [drewN_world encU A2.out nq, ← heq, sd_right_stop ltInt dk h1 hL hS]
          · -- it is: they are swapped, and the hole goes down
            have hG : ltInt dk[first + root]! dk[first + 2 * root + 2]! = true := by
              have : (!ltInt dk[first + root]! dk[first + 2 * root + 2]!) = false := by assumption
              simpa using this
            have hcw3 : ∀ t, t < d.size → (wr2.drewN nq).cell? ⟨blk, off + t, none⟩ = some (.int .u64 dk[t]!) := hcw2
            have hfw3 : ∀ t, t < d.size → (wr2.drewN nq).frozen? ⟨blk, off + t, none⟩ = false := hfw2
            have A3 : Aside (wr2.drewN nq = putRow encU (Sort.ahead w (n + nq1 + nq)) blk off dk) := drewN_world encU A2.out nq
            clear hcw2 hfw2 A2
            generalize wr2.drewN nq = wr3 at hcw3 hfw3 A3 ⊢
            go_region
            go_wp2
            go_roundg (hi - (2 * root + 2))
            case measure => omega
            case rel =>
              refine ⟨2 * root + 2, swp dk (first + root) (first + (2 * root + 1 + 1)), n + nq1 + nq + 1, by simp <;> omega, by omega, Nat.le_refl _, by rw [size_swp]; exact hds, swap_world encU (by omega) (by omega) A3.out rfl rfl, ?_⟩
              rw [← heq, sd_right_go ltInt dk h1 hL hG]
        · -- THE LEFT CHILD IS NOT LESS THAN THE RIGHT
          have hL : ltInt dk[first + 2 * root + 1]! dk[first + 2 * root + 2]! = false := by assumption
          revert nq; intro nq1      -- (the next quiet region brings an 'nq' of its own)
          have hcw2 : ∀ t, t < d.size → (wr.drewN nq1).cell? ⟨blk, off + t, none⟩ = some (.int .u64 dk[t]!) := hcw
          have hfw2 : ∀ t, t < d.size → (wr.drewN nq1).frozen? ⟨blk, off + t, none⟩ = false := hfw
          have A2 : Aside (wr.drewN nq1 = putRow encU (Sort.ahead w (n + nq1)) blk off dk) := drewN_world encU A.out nq1
          clear hcw hfw A
          generalize wr.drewN nq1 = wr2 at hcw2 hfw2 A2 ⊢
          go_big_quiet (first | (go_at_call 41; refine Calls.quiet_of_same (less_any _ _ _)))
          go_wp2_with fail
          · -- the hole is not less than the greater child: return
            have hS : ltInt dk[first + root]! dk[first + 2 * root + 1]! = false := by
              have : (!ltInt dk[first + root]! dk[first + 2 * root + 1]!) = true := by assumption
              simpa using this
            (try simp only [Exit.inBlock, Exit.then]); refine bodyPost_ret (results_none rfl _ _ _) rfl ?_      -- (an explicit 'return' of a function without results)
            refine ⟨rfl, n + nq1 + nq, ?_⟩
            rw [drewN_world encU A2.out nq, ← heq, sd_left_stop ltInt dk (by omega) (fun _ => hL) hS]
          · -- it is: they are swapped, and the hole goes down
            have hG : ltInt dk[first + root]! dk[first + 2 * root + 1]! = true := by
              have : (!ltInt dk[first + root]! dk[first + 2 * root + 1]!) = false := by assumption
              simpa using this
            have hcw3 : ∀ t, t < d.size → (wr2.drewN nq).cell? ⟨blk, off + t, none⟩ = some (.int .u64 dk[t]!) := hcw2
            have hfw3 : ∀ t, t < d.size → (wr2.drewN nq).frozen? ⟨blk, off + t, none⟩ = false := hfw2
            have A3 : Aside (wr2.drewN nq = putRow encU (Sort.ahead w (n + nq1 + nq)) blk off dk) := drewN_world encU A2.out nq
            clear hcw2 hfw2 A2
            generalize wr2.drewN nq = wr3 at hcw3 hfw3 A3 ⊢
            go_region
            go_wp2
            go_roundg (hi - (2 * root + 1))
            case measure => omega
            case rel =>
              refine ⟨2 * root + 1, swp dk (first + root) (first + (2 * root + 1)), n + nq1 + nq + 1, by simp <;> omega, by omega, Nat.le_refl _, by rw [size_swp]; exact hds, swap_world encU (by omega) (by omega) A3.out rfl rfl, ?_⟩
              rw [← heq, sd_left_go ltInt dk (by omega) (fun _ => hL) hG]
      · -- THERE IS NO RIGHT CHILD
        have h1z : decide (2 * (root : Int) + 1 + 1 < (hi : Int)) = false := decide_eq_false (by omega)      -- (a guard that is FALSE: said so outright: from '¬ ..' the walk did not decide it)
        go_wp2_with fail
        go_big_quiet (first | (go_at_call 41; refine Calls.quiet_of_same (less_any _ _ _)))
        go_wp2_with fail
        revert nq; intro nq1      -- (the next quiet region brings an 'nq' of its own)
        have hcw2 : ∀ t, t < d.size → (wr.drewN nq1).cell? ⟨blk, off + t, none⟩ = some (.int .u64 dk[t]!) := hcw
        have hfw2 : ∀ t, t < d.size → (wr.drewN nq1).frozen? ⟨blk, off + t, none⟩ = false := hfw
        have A2 : Aside (wr.drewN nq1 = putRow encU (Sort.ahead w (n + nq1)) blk off dk) := drewN_world encU A.out nq1
        clear hcw hfw A
        generalize wr.drewN nq1 = wr2 at hcw2 hfw2 A2 ⊢
        go_big_quiet (first | (go_at_call 41; refine Calls.quiet_of_same (less_any _ _ _)))
        go_wp2_with fail
        · -- the hole is not less than the greater child: return
          have hS : ltInt dk[first + root]! dk[first + 2 * root + 1]! = false := by
            have : (!ltInt dk[first + root]! dk[first + 2 * root + 1]!) = true := by assumption
            simpa using this
          (try simp only [Exit.inBlock, Exit.then]); refine bodyPost_ret (results_none rfl _ _ _) rfl ?_      -- (an explicit 'return' of a function without results)
          refine ⟨rfl, n + nq1 + nq, ?_⟩
          rw [drewN_world encU A2.out nq, ← heq, sd_left_stop ltInt dk (by omega) (fun h => absurd h h1) hS]
        · -- it is: they are swapped, and the hole goes down
          have hG : ltInt dk[first + root]! dk[first + 2 * root + 1]! = true := by
            have : (!ltInt dk[first + root]! dk[first + 2 * root + 1]!) = false := by assumption
            simpa using this
          have hcw3 : ∀ t, t < d.size → (wr2.drewN nq).cell? ⟨blk, off + t, none⟩ = some (.int .u64 dk[t]!) := hcw2
          have hfw3 : ∀ t, t < d.size → (wr2.drewN nq).frozen? ⟨blk, off + t, none⟩ = false := hfw2
          have A3 : Aside (wr2.drewN nq = putRow encU (Sort.ahead w (n + nq1 + nq)) blk off dk) := drewN_world encU A2.out nq
          clear hcw2 hfw2 A2
          generalize wr2.drewN nq = wr3 at hcw3 hfw3 A3 ⊢
          go_region
          go_wp2
          go_roundg (hi - (2 * root + 1))
          case measure => omega
          case rel =>
            refine ⟨2 * root + 1, swp dk (first + root) (first + (2 * root + 1)), n + nq1 + nq + 1, by simp <;> omega, by omega, Nat.le_refl _, by rw [size_swp]; exact hds, swap_world encU (by omega) (by omega) A3.out rfl rfl, ?_⟩
            rw [← heq, sd_left_go ltInt dk (by omega) (fun h => absurd h h1) hG]

set_option maxHeartbeats 3200000 in
set_option maxRecDepth 1000000 in
theorem Su.heapSort_int (blk off len cap : Nat) (d : Array Int) (hlen : d.size = len) (a b : Nat) (w : World) (hH : Holds encU w blk off d) (hab : a ≤ b) (hb : b ≤ d.size) (hsz : d.size < 4611686018427387904) :
    Calls Try.prog 36 #[.slice (some ⟨blk, off, none⟩) len cap, .int .i64 a, .int .i64 b] w fun e w' => e = .returned (.tuple #[]) ∧ ∃ n, w' = putRow encU (Sort.ahead w n) blk off (heapSort ltInt d a b) := by
  subst hlen
  have ecast : ((b - a : Nat) : Int) = (b : Int) - (a : Int) := by omega
  go_enter Try.func36, Try.ntmps36
  go_wp2
  go_loopg [9] ((b - a - 1) / 2 + 1) (fun k s9 wr => s9 = .int .i64 ((k : Int) - 1) ∧ k ≤ (b - a - 1) / 2 + 1 ∧ ∃ (dk : Array Int) (n : Nat), dk.size = d.size ∧ wr = putRow encU (Sort.ahead w n) blk off dk ∧
    heapBuild ltInt (b - a) a k dk = heapBuild ltInt (b - a) a ((b - a - 1) / 2 + 1) d)
  case atStart => exact ⟨by rw [half_start hab], Nat.le_refl _, d, 0, rfl, (putRow_self encU w blk off d hH).symm, rfl⟩
  case round =>
    obtain ⟨rfl, hkk, dk, n, hds, hwr, heq⟩ := hrel
    have hHk : Holds encU wr blk off dk := by rw [hwr]; exact holds_putRow encU _ blk off d dk (holds_ahead encU w n blk off d hH) hds
    have A : Aside (wr = putRow encU (Sort.ahead w n) blk off dk) := hwr
    clear hwr
    cases gk with
    | zero =>
      have hB : dk = heapBuild ltInt (b - a) a ((b - a - 1) / 2 + 1) d := heq
      clear heq hHk hkk
      go_wp2
      go_loopg [10] (b - a) (fun k s10 wr2 => s10 = .int .i64 ((k : Int) - 1) ∧ k ≤ b - a ∧ ∃ (dj : Array Int) (n2 : Nat), dj.size = d.size ∧ wr2 = putRow encU (Sort.ahead w n2) blk off dj ∧ heapPop ltInt a k dj = heapPop ltInt a (b - a) dk)
      case atStart => exact ⟨by rw [ecast], Nat.le_refl _, dk, n, hds, A.out, rfl⟩
      case round =>
        obtain ⟨rfl, hkk, dj, n2, hdj, hwr2, heq2⟩ := hrel
        cases gk with
        | zero =>
          go_wp2
          go_end0
          refine ⟨rfl, n2, ?_⟩
          have e : dj = heapSort ltInt d a b := by rw [heapSort, ← hB, ← heq2]; rfl
          rw [← e]
        | succ k =>
          have hHj : Holds encU wr blk off dj := by rw [hwr2]; exact holds_putRow encU _ blk off d dj (holds_ahead encU w n2 blk off d hH) hdj
          have hcw : ∀ t, t < d.size → wr.cell? ⟨blk, off + t, none⟩ = some (.int .u64 dj[t]!) := fun t ht => (hHj t (by omega)).1
          have hfw : ∀ t, t < d.size → wr.frozen? ⟨blk, off + t, none⟩ = false := fun t ht => (hHj t (by omega)).2
          have A2 : Aside (wr = putRow encU (Sort.ahead w n2) blk off dj) := hwr2
          clear hwr2 hHj
          rcases Nat.eq_zero_or_pos k with hk0 | hkp
          · subst hk0
            go_wp2_with fail
            go_region
            go_wp2_with fail
            rw [swap_world encU (i := a) (j := a) (by omega) (by omega) A2.out rfl rfl]
            refine (Su.siftDown_int blk off d.size cap (swp dj a (a)) (by rw [size_swp]; exact hdj) 0 0 a _ (holds_putRow encU _ blk off d _ (holds_ahead encU w (n2 + 1) blk off d hH) (by rw [size_swp]; exact hdj)) (Nat.zero_le _) (by rw [size_swp]; omega) (by rw [size_swp]; omega)).mono ?_
            rintro e w1 ⟨rfl, m, hw1⟩
            go_wp2
            go_roundg 0
            case measure => omega
            case rel =>
              refine ⟨by simp, by omega, siftDown ltInt 0 a 0 (swp dj a (a)), n2 + 1 + m, by rw [size_siftDown ltInt _ _ _ _ _ (Nat.le_refl _), size_swp]; exact hdj, ?_, heq2⟩
              first
                | rw [hw1, putRow_ahead_putRow encU w (n2 + 1) m blk off _ _ (size_siftDown ltInt _ _ _ _ _ (Nat.le_refl _))]
                | rw [putRow_ahead_putRow encU w (n2 + 1) m blk off _ _ (size_siftDown ltInt _ _ _ _ _ (Nat.le_refl _))]
          · skip
            go_wp2_with fail
            go_region
            go_wp2_with fail
            rw [swap_world encU (i := a) (j := a + k) (by omega) (by omega) A2.out rfl rfl]
            refine (Su.siftDown_int blk off d.size cap (swp dj a (a + k)) (by rw [size_swp]; exact hdj) 0 k a _ (holds_putRow encU _ blk off d _ (holds_ahead encU w (n2 + 1) blk off d hH) (by rw [size_swp]; exact hdj)) (Nat.zero_le _) (by rw [size_swp]; omega) (by rw [size_swp]; omega)).mono ?_
            rintro e w1 ⟨rfl, m, hw1⟩
            go_wp2
            go_roundg k
            case measure => omega
            case rel =>
              refine ⟨by simp, by omega, siftDown ltInt k a 0 (swp dj a (a + k)), n2 + 1 + m, by rw [size_siftDown ltInt _ _ _ _ _ (Nat.le_refl _), size_swp]; exact hdj, ?_, heq2⟩
              first
                | rw [hw1, putRow_ahead_putRow encU w (n2 + 1) m blk off _ _ (size_siftDown ltInt _ _ _ _ _ (Nat.le_refl _))]
                | rw [putRow_ahead_putRow encU w (n2 + 1) m blk off _ _ (size_siftDown ltInt _ _ _ _ _ (Nat.le_refl _))]
    | succ k =>
      have hcall := Su.siftDown_int blk off d.size cap dk hds k (b - a) a wr hHk (by omega) (by omega) (by omega)
      rw [ecast] at hcall
      go_wp2_with (go_at_call 46; refine hcall.mono ?_; rintro e w1 ⟨rfl, m, hw1⟩)
      go_roundg k
      case measure => omega
      case rel =>
        refine ⟨by simp, by omega, siftDown ltInt (b - a) a k dk, n + m, by rw [size_siftDown ltInt _ _ _ _ _ (Nat.le_refl _)]; exact hds, ?_, heq⟩
        rw [A.out, putRow_ahead_putRow encU w n m blk off dk _ (size_siftDown ltInt _ _ _ _ _ (Nat.le_refl _))]
end Go.Proofs.Qxb6600341a
